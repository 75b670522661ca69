import Derived.Test.YbulkdupwLawPrep
namespace Go.Proofs.Ybulkdupw
open Go.RowKit
set_option linter.unusedVariables false

/-- The first 'if' of a text whose test lies in slot n. -/
def findIf (n : Nat) : Code → Code
  | .seq a b => match findIf n a with
    | .skip => findIf n b
    | c => c
  | .cond (.tmp k) t e => if k == n then .cond (.tmp k) t e else match findIf n t with
    | .skip => findIf n e
    | c => c
  | .block _ b => findIf n b
  | .loop b => findIf n b
  | _ => .skip

set_option maxRecDepth 100000 in
set_option maxHeartbeats 1000000 in
/-- Behind the call of keysLeft: the checks of what it handed to the closure. -/
theorem part_checks {B L m n lr rc lb lq cr cb cq X r : Nat} {rs ar ab aq : Option Addr} {fr fb fq : Nat → ByteArray} {A : Array Value} {emp me mk : Int} {w2 w4 w5 : World}
    (HB : Boxed B lr cr lq cq lb ar aq ab fr fq fb w2) (p : Pre X (B + 1) B L m n lb lq lr cq cr aq ar fb fq fr A (.slice rs lr rc) emp w4) (hown4 : w4.ownsRow (B + 2) 36 5 (.slice rs lr rc) lr (keyCells fr lr))
    (HP : Hid (Below (B + 2) w2 w4 ∧ B + 2 ≤ L ∧ (∀ k, (Value.slice rs lr rc).ownBlock = some k → k < L))) (hlr : lr ≤ 4096) (hlb : lb ≤ 4096) (hlq : lq ≤ 4096) (hrl : r < lr + 2) (hd : Done X w4 w5 me emp r lr lq lr lb fb fq fr) {u15 u18 u43 u44 u45 u46 u47 u48 u49 u50 u51 u52 u53 u54 u55 u56 u57 u58 u59 u60 u61 u62 u63 u64 u65 u66 u67 u68 u69 u70 u71 u72 u73 u74 u75 u76 u77 u78 u79 u80 u81 u82 u83 u84 u85 u86 u87 u88 u89 u90 u91 u92 u93 u94 u95 u96 u97 u98 u99 u100 u102 u103 u104 u105 u106 u107 u108 u109 u110 u111 u112 u113 u114 u115 u116 u117 u118 u119 u120 u121 u122 u123 u124 u125 u126 u127 u128 u129 u130 u131 u132 u133 u134 u135 u136 u137 u138 u139 u140 u141 u142 u143 u144 u145 u146 u147 u148 u149 u150 u151 u152 u153 u154 u155 u156 u157 u158 u159 u160 u161 u162 u163 u164 u165 u166 u167 u168 u169 u170 u171 u172 u173 u174 u175 u176 u177 u178 u179 u180 u181 u182 u183 u184 u185 u186 u187 u188 u189 u190 u191 u192 u193 u194 u195 u196 u197 u198 u199 u200 u201 u202 u203 u204 u205 u206 u207 u208 u209 u210 u211 u212 u213 u214 u215 u216 u217 u218 u219 u220 u221 u222 u223 u224 u225 u226 u227 u228 u229 u230 u231 u232 u233 u234 u235 u236 u237 u238 u239 u240 u241 u242 u243 u244 u245 u246 u247 u248 u249 u250 u251 u252 u253 u254 u255 u256 u257 u258 u259 u260 u261 u262 u263 u264 u265 u266 u267 u268 u269 u270 u271 u272 u273 u274 u275 u276 u277 u278 : Value} {K : Act → World → Prop} {Q : Exit → Act → World → Prop}
    (hK : ∀ (cal : Bool) (x12 x15 x18 x28 x43 x44 x45 x46 x47 x48 x49 x50 x51 x52 x53 x54 x55 x56 x57 x58 x59 x60 x61 x62 x63 x64 x65 x66 x67 x68 x69 x70 x71 x72 x73 x74 x75 x76 x77 x78 x79 x80 x81 x82 x83 x84 x85 x86 x87 x88 x89 x90 x91 x92 x93 x94 x95 x96 x97 x98 x99 x100 x101 x102 x103 x104 x105 x106 x107 x108 x109 x110 x111 x112 x113 x114 x115 x116 x117 x118 x119 x120 x121 x122 x123 x124 x125 x126 x127 x128 x129 x130 x131 x132 x133 x134 x135 x136 x137 x138 x139 x140 x141 x142 x143 x144 x145 x146 x147 x148 x149 x150 x151 x152 x153 x154 x155 x156 x157 x158 x159 x160 x161 x162 x163 x164 x165 x166 x167 x168 x169 x170 x171 x172 x173 x174 x175 x176 x177 x178 x179 x180 x181 x182 x183 x184 x185 x186 x187 x188 x189 x190 x191 x192 x193 x194 x195 x196 x197 x198 x199 x200 x201 x202 x203 x204 x205 x206 x207 x208 x209 x210 x211 x212 x213 x214 x215 x216 x217 x218 x219 x220 x221 x222 x223 x224 x225 x226 x227 x228 x229 x230 x231 x232 x233 x234 x235 x236 x237 x238 x239 x240 x241 x242 x243 x244 x245 x246 x247 x248 x249 x250 x251 x252 x253 x254 x255 x256 x257 x258 x259 x260 x261 x262 x263 x264 x265 x266 x267 x268 x269 x270 x271 x272 x273 x274 x275 x276 x277 x278 : Value) (wx : World), Out X w4 wx → (cal = true → ∃ hq hr, Ran X w4 wx lq lr lb fb fq fr hq hr) → K { tmps := #[.int .u64 emp, .slice ar lr cr, .slice ab lb cb, .int .u64 me, .int .u64 mk, .slice aq lq cq, undef, .pointer (some ⟨B, 0, none⟩), undef, undef, undef, .pointer (some ⟨B + 1, 0, none⟩), x12, .slice rs lr rc, undef, x15, .map (some m), undef, x18, .pointer (some ⟨L, 0, none⟩), .int .i64 (r : Int), .pointer (some ⟨X, 0, none⟩), .pointer (some ⟨X + 1, 0, none⟩), .pointer (some ⟨X + 2, 0, none⟩), .pointer (some ⟨X + 3, 0, none⟩), .pointer (some ⟨X + 4, 0, none⟩), .pointer (some ⟨X + 5, 0, none⟩), .bool cal, x28, undef, undef, undef, undef, undef, undef, undef, undef, undef, undef, undef, undef, undef, undef, x43, x44, x45, x46, x47, x48, x49, x50, x51, x52, x53, x54, x55, x56, x57, x58, x59, x60, x61, x62, x63, x64, x65, x66, x67, x68, x69, x70, x71, x72, x73, x74, x75, x76, x77, x78, x79, x80, x81, x82, x83, x84, x85, x86, x87, x88, x89, x90, x91, x92, x93, x94, x95, x96, x97, x98, x99, x100, x101, x102, x103, x104, x105, x106, x107, x108, x109, x110, x111, x112, x113, x114, x115, x116, x117, x118, x119, x120, x121, x122, x123, x124, x125, x126, x127, x128, x129, x130, x131, x132, x133, x134, x135, x136, x137, x138, x139, x140, x141, x142, x143, x144, x145, x146, x147, x148, x149, x150, x151, x152, x153, x154, x155, x156, x157, x158, x159, x160, x161, x162, x163, x164, x165, x166, x167, x168, x169, x170, x171, x172, x173, x174, x175, x176, x177, x178, x179, x180, x181, x182, x183, x184, x185, x186, x187, x188, x189, x190, x191, x192, x193, x194, x195, x196, x197, x198, x199, x200, x201, x202, x203, x204, x205, x206, x207, x208, x209, x210, x211, x212, x213, x214, x215, x216, x217, x218, x219, x220, x221, x222, x223, x224, x225, x226, x227, x228, x229, x230, x231, x232, x233, x234, x235, x236, x237, x238, x239, x240, x241, x242, x243, x244, x245, x246, x247, x248, x249, x250, x251, x252, x253, x254, x255, x256, x257, x258, x259, x260, x261, x262, x263, x264, x265, x266, x267, x268, x269, x270, x271, x272, x273, x274, x275, x276, x277, x278], defers := [] } wx) :
    Code.wp Yba.prog (findIf 101 (Yba.f3.body.getD .skip)) (Exit.then K Q) { tmps := #[.int .u64 emp, .slice ar lr cr, .slice ab lb cb, .int .u64 me, .int .u64 mk, .slice aq lq cq, undef, .pointer (some ⟨B, 0, none⟩), undef, undef, undef, .pointer (some ⟨B + 1, 0, none⟩), .bool false, .slice rs lr rc, undef, u15, .map (some m), undef, u18, .pointer (some ⟨L, 0, none⟩), .int .i64 (r : Int), .pointer (some ⟨X, 0, none⟩), .pointer (some ⟨X + 1, 0, none⟩), .pointer (some ⟨X + 2, 0, none⟩), .pointer (some ⟨X + 3, 0, none⟩), .pointer (some ⟨X + 4, 0, none⟩), .pointer (some ⟨X + 5, 0, none⟩), .bool true, undef, undef, undef, undef, undef, undef, undef, undef, undef, undef, undef, undef, undef, undef, undef, u43, u44, u45, u46, u47, u48, u49, u50, u51, u52, u53, u54, u55, u56, u57, u58, u59, u60, u61, u62, u63, u64, u65, u66, u67, u68, u69, u70, u71, u72, u73, u74, u75, u76, u77, u78, u79, u80, u81, u82, u83, u84, u85, u86, u87, u88, u89, u90, u91, u92, u93, u94, u95, u96, u97, u98, u99, u100, .bool (me != emp), u102, u103, u104, u105, u106, u107, u108, u109, u110, u111, u112, u113, u114, u115, u116, u117, u118, u119, u120, u121, u122, u123, u124, u125, u126, u127, u128, u129, u130, u131, u132, u133, u134, u135, u136, u137, u138, u139, u140, u141, u142, u143, u144, u145, u146, u147, u148, u149, u150, u151, u152, u153, u154, u155, u156, u157, u158, u159, u160, u161, u162, u163, u164, u165, u166, u167, u168, u169, u170, u171, u172, u173, u174, u175, u176, u177, u178, u179, u180, u181, u182, u183, u184, u185, u186, u187, u188, u189, u190, u191, u192, u193, u194, u195, u196, u197, u198, u199, u200, u201, u202, u203, u204, u205, u206, u207, u208, u209, u210, u211, u212, u213, u214, u215, u216, u217, u218, u219, u220, u221, u222, u223, u224, u225, u226, u227, u228, u229, u230, u231, u232, u233, u234, u235, u236, u237, u238, u239, u240, u241, u242, u243, u244, u245, u246, u247, u248, u249, u250, u251, u252, u253, u254, u255, u256, u257, u258, u259, u260, u261, u262, u263, u264, u265, u266, u267, u268, u269, u270, u271, u272, u273, u274, u275, u276, u277, u278], defers := [] } w5 := by
  have HK : Hid _ := hK
  clear hK
  show Code.wp Yba.prog (Code.cond _ _ _) _ _ _
  rcases hd with ⟨hne, gl, hq, hr, hv, ho, o1, o2, o3⟩ | ⟨heq, hrl2, gl, hq, hr, hv, ho, o1, o2, o3⟩ | ⟨heq, hrl2, hv, ho⟩
  · have hneb : (me != emp) = true := by simp [hne]
    clear hne
    have c0 : w5.cell? ⟨X, 0, none⟩ = some (.int .i64 1) := cell_of hv.v0 rfl
    have c2 : w5.cell? ⟨X + 2, 0, none⟩ = some (.bool true) := cell_of hv.v2 rfl
    have c3 : w5.cell? ⟨X + 3, 0, none⟩ = some (.bool true) := cell_of hv.v3 rfl
    have HR : Hid (Ran X w4 w5 lq lr lb fb fq fr hq hr) := ⟨hv.v4, hv.v5, o2, o3⟩
    clear hv o1 o2 o3
    go_wp2
    exact HK.out true _ _ _ _ _ _ _ _ _ _ _ _ _ _ _ _ _ _ _ _ _ _ _ _ _ _ _ _ _ _ _ _ _ _ _ _ _ _ _ _ _ _ _ _ _ _ _ _ _ _ _ _ _ _ _ _ _ _ _ _ _ _ _ _ _ _ _ _ _ _ _ _ _ _ _ _ _ _ _ _ _ _ _ _ _ _ _ _ _ _ _ _ _ _ _ _ _ _ _ _ _ _ _ _ _ _ _ _ _ _ _ _ _ _ _ _ _ _ _ _ _ _ _ _ _ _ _ _ _ _ _ _ _ _ _ _ _ _ _ _ _ _ _ _ _ _ _ _ _ _ _ _ _ _ _ _ _ _ _ _ _ _ _ _ _ _ _ _ _ _ _ _ _ _ _ _ _ _ _ _ _ _ _ _ _ _ _ _ _ _ _ _ _ _ _ _ _ _ _ _ _ _ _ _ _ _ _ _ _ _ _ _ _ _ _ _ _ _ _ _ _ _ _ _ _ _ _ _ _ _ _ _ _ _ _ _ _ _ _ _ _ ho (fun _ => ⟨hq, hr, HR.out⟩)
  · have hneb : (me != emp) = false := by simp [heq]
    clear heq hrl
    obtain ⟨g, gc, rfl, hgb, hgl⟩ := o1.form (by omega)
    have c0 : w5.cell? ⟨X, 0, none⟩ = some (.int .i64 1) := cell_of hv.v0 rfl
    have c2 : w5.cell? ⟨X + 2, 0, none⟩ = some (.bool false) := cell_of hv.v2 rfl
    have c3 : w5.cell? ⟨X + 3, 0, none⟩ = some (.bool false) := cell_of hv.v3 rfl
    have c1 : w5.cell? ⟨X + 1, 0, none⟩ = some (.slice (some ⟨g, 0, none⟩) (lr - r) gc) := cell_of hv.v1 rfl
    have cB : w5.cell? ⟨B, 0, none⟩ = some (.slice ar lr cr) := (ho.cell (lt_of_some p.hR) (Or.inl (Nat.lt_trans p.hRX p.hLX))).trans (cell_of p.hR rfl)
    have HR : Hid (Ran X w4 w5 lq lr lb fb fq fr hq hr) := ⟨hv.v4, hv.v5, o2, o3⟩
    have hsub : ((lr - r : Nat) : Int) = (lr : Int) - (r : Int) := by omega
    clear hv o2 o3
    go_wp2
    have hnk := neq_key_same
    go_loopw [28] (fun i wr => ∃ j n : Nat, j ≤ lr - r ∧ i = .int .i64 j ∧ wr = w5.drewN n) (fun i _ => (lr - r) - (intOf i).toNat)
    case atStart => exact ⟨0, 0, Nat.zero_le _, rfl, rfl⟩
    case round =>
      obtain ⟨j, n0, hj, rfl, rfl⟩ := hrel
      by_cases hlt3 : j < lr - r
      · obtain ⟨b, off, rfl, hb, hcs⟩ := p.tr (by omega)
        have hct : w5.cell? ⟨b, off + (r + j), none⟩ = some (.string (fr (r + j))) := (ho.cell (by have := p.hLX; have := p.hv.lt; omega) (Or.inl (Nat.lt_trans hb p.hLX))).trans (hcs _ (by omega))
        have HLT : Hid (j < lr - r) := hlt3
        obtain ⟨k0, k1, k2, k3, k4⟩ := row_five o1 (by omega) j hlt3
        have i1 : (0 : Int) ≤ (r : Int) + (j : Int) := by omega
        have i2 : (r : Int) + (j : Int) < (lr : Int) := by omega
        have i3 : ((r : Int) + (j : Int)).toNat = r + j := by omega
        have i4 : IntKind.i64.wrap ((r : Int) + (j : Int)) = (r : Int) + (j : Int) := by rw [IntKind.wrap_i64]; omega
        clear hcs
        go_upto_region 34 with fail
        go_quiet (fail)
        go_wp2
        go_roundw
        case rel => exact ⟨j + 1, n0 + nq, HLT.out, by go_num, by simp [World.drewN]⟩
        case measure => have := HLT.out; simp [intOf]; omega
      · have hje : j = lr - r := by omega
        go_wp2
        exact HK.out true _ _ _ _ _ _ _ _ _ _ _ _ _ _ _ _ _ _ _ _ _ _ _ _ _ _ _ _ _ _ _ _ _ _ _ _ _ _ _ _ _ _ _ _ _ _ _ _ _ _ _ _ _ _ _ _ _ _ _ _ _ _ _ _ _ _ _ _ _ _ _ _ _ _ _ _ _ _ _ _ _ _ _ _ _ _ _ _ _ _ _ _ _ _ _ _ _ _ _ _ _ _ _ _ _ _ _ _ _ _ _ _ _ _ _ _ _ _ _ _ _ _ _ _ _ _ _ _ _ _ _ _ _ _ _ _ _ _ _ _ _ _ _ _ _ _ _ _ _ _ _ _ _ _ _ _ _ _ _ _ _ _ _ _ _ _ _ _ _ _ _ _ _ _ _ _ _ _ _ _ _ _ _ _ _ _ _ _ _ _ _ _ _ _ _ _ _ _ _ _ _ _ _ _ _ _ _ _ _ _ _ _ _ _ _ _ _ _ _ _ _ _ _ _ _ _ _ _ _ _ _ _ _ _ _ _ _ _ _ _ _ (out_drewN ho n0) (fun _ => ⟨hq, hr, ran_drewN HR.out n0⟩)
  · have hneb : (me != emp) = false := by simp [heq]
    clear heq hrl
    have c0 : w5.cell? ⟨X, 0, none⟩ = some (.int .i64 0) := cell_of hv.v0 rfl
    have cB : w5.cell? ⟨B, 0, none⟩ = some (.slice ar lr cr) := (ho.cell (lt_of_some p.hR) (Or.inl (Nat.lt_trans p.hRX p.hLX))).trans (cell_of p.hR rfl)
    clear hv
    go_wp2
    exact HK.out false _ _ _ _ _ _ _ _ _ _ _ _ _ _ _ _ _ _ _ _ _ _ _ _ _ _ _ _ _ _ _ _ _ _ _ _ _ _ _ _ _ _ _ _ _ _ _ _ _ _ _ _ _ _ _ _ _ _ _ _ _ _ _ _ _ _ _ _ _ _ _ _ _ _ _ _ _ _ _ _ _ _ _ _ _ _ _ _ _ _ _ _ _ _ _ _ _ _ _ _ _ _ _ _ _ _ _ _ _ _ _ _ _ _ _ _ _ _ _ _ _ _ _ _ _ _ _ _ _ _ _ _ _ _ _ _ _ _ _ _ _ _ _ _ _ _ _ _ _ _ _ _ _ _ _ _ _ _ _ _ _ _ _ _ _ _ _ _ _ _ _ _ _ _ _ _ _ _ _ _ _ _ _ _ _ _ _ _ _ _ _ _ _ _ _ _ _ _ _ _ _ _ _ _ _ _ _ _ _ _ _ _ _ _ _ _ _ _ _ _ _ _ _ _ _ _ _ _ _ _ _ _ _ _ _ _ _ _ _ _ _ ho (fun h => by cases h)
end Go.Proofs.Ybulkdupw
