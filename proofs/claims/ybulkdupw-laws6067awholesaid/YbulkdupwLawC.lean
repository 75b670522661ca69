import Derived.Test.YbulkdupwLawA
namespace Go.Proofs.Ybulkdupw
open Go.RowKit
set_option linter.unusedVariables false

set_option maxRecDepth 100000 in
set_option maxHeartbeats 1000000 in
/-- Where the closure was called: its answers, one by one. -/
theorem part_answers {B L m n lr rc lb lq cr cb cq X r : Nat} {rs ar ab aq : Option Addr} {fr fb fq : Nat → ByteArray} {A : Array Value} {emp me mk : Int} {w2 w4 wc : World}
    (HB : Boxed B lr cr lq cq lb ar aq ab fr fq fb w2) (p : Pre X (B + 1) B L m n lb lq lr cq cr aq ar fb fq fr A (.slice rs lr rc) emp w4) (hown4 : w4.ownsRow (B + 2) 36 5 (.slice rs lr rc) lr (keyCells fr lr))
    (HP : Hid (Below (B + 2) w2 w4 ∧ B + 2 ≤ L ∧ (∀ k, (Value.slice rs lr rc).ownBlock = some k → k < L))) (hlr : lr ≤ 4096) (hlb : lb ≤ 4096) (hlq : lq ≤ 4096) {cal : Bool} (ho : Out X w4 wc) (hran : cal = true → ∃ hq hr, Ran X w4 wc lq lr lb fb fq fr hq hr) {u12 u15 u18 u28 u43 u44 u45 u46 u47 u48 u49 u50 u51 u52 u53 u54 u55 u56 u57 u58 u59 u60 u61 u62 u63 u64 u65 u66 u67 u68 u69 u70 u71 u72 u73 u74 u75 u76 u77 u78 u79 u80 u81 u82 u83 u84 u85 u86 u87 u88 u89 u90 u91 u92 u93 u94 u95 u96 u97 u98 u99 u100 u101 u102 u103 u104 u105 u106 u107 u108 u109 u110 u111 u112 u113 u114 u115 u116 u117 u118 u119 u120 u121 u122 u123 u124 u125 u126 u127 u128 u129 u130 u131 u132 u133 u134 u135 u136 u137 u138 u139 u140 u141 u142 u143 u144 u145 u146 u147 u148 u149 u150 u151 u152 u154 u155 u156 u157 u158 u159 u160 u161 u162 u163 u164 u165 u166 u167 u168 u169 u170 u171 u172 u173 u174 u175 u176 u177 u178 u179 u180 u181 u182 u183 u184 u185 u186 u187 u188 u189 u190 u191 u192 u193 u194 u195 u196 u197 u198 u199 u200 u201 u202 u203 u204 u205 u206 u207 u208 u209 u210 u211 u212 u213 u214 u215 u216 u217 u218 u219 u220 u221 u222 u223 u224 u225 u226 u227 u228 u229 u230 u231 u232 u233 u234 u235 u236 u237 u238 u239 u240 u241 u242 u243 u244 u245 u246 u247 u248 u249 u250 u251 u252 u253 u254 u255 u256 u257 u258 u259 u260 u261 u262 u263 u264 u265 u266 u267 u268 u269 u270 u271 u272 u273 u274 u275 u276 u277 u278 : Value} {K : Act → World → Prop} {Q : Exit → Act → World → Prop}
    (hK : ∀ (x12 x15 x18 x28 x29 x30 x31 x32 x43 x44 x45 x46 x47 x48 x49 x50 x51 x52 x53 x54 x55 x56 x57 x58 x59 x60 x61 x62 x63 x64 x65 x66 x67 x68 x69 x70 x71 x72 x73 x74 x75 x76 x77 x78 x79 x80 x81 x82 x83 x84 x85 x86 x87 x88 x89 x90 x91 x92 x93 x94 x95 x96 x97 x98 x99 x100 x101 x102 x103 x104 x105 x106 x107 x108 x109 x110 x111 x112 x113 x114 x115 x116 x117 x118 x119 x120 x121 x122 x123 x124 x125 x126 x127 x128 x129 x130 x131 x132 x133 x134 x135 x136 x137 x138 x139 x140 x141 x142 x143 x144 x145 x146 x147 x148 x149 x150 x151 x152 x153 x154 x155 x156 x157 x158 x159 x160 x161 x162 x163 x164 x165 x166 x167 x168 x169 x170 x171 x172 x173 x174 x175 x176 x177 x178 x179 x180 x181 x182 x183 x184 x185 x186 x187 x188 x189 x190 x191 x192 x193 x194 x195 x196 x197 x198 x199 x200 x201 x202 x203 x204 x205 x206 x207 x208 x209 x210 x211 x212 x213 x214 x215 x216 x217 x218 x219 x220 x221 x222 x223 x224 x225 x226 x227 x228 x229 x230 x231 x232 x233 x234 x235 x236 x237 x238 x239 x240 x241 x242 x243 x244 x245 x246 x247 x248 x249 x250 x251 x252 x253 x254 x255 x256 x257 x258 x259 x260 x261 x262 x263 x264 x265 x266 x267 x268 x269 x270 x271 x272 x273 x274 x275 x276 x277 x278 : Value) (wx : World), Out X w4 wx → K { tmps := #[.int .u64 emp, .slice ar lr cr, .slice ab lb cb, .int .u64 me, .int .u64 mk, .slice aq lq cq, undef, .pointer (some ⟨B, 0, none⟩), undef, undef, undef, .pointer (some ⟨B + 1, 0, none⟩), x12, .slice rs lr rc, undef, x15, .map (some m), undef, x18, .pointer (some ⟨L, 0, none⟩), .int .i64 (r : Int), .pointer (some ⟨X, 0, none⟩), .pointer (some ⟨X + 1, 0, none⟩), .pointer (some ⟨X + 2, 0, none⟩), .pointer (some ⟨X + 3, 0, none⟩), .pointer (some ⟨X + 4, 0, none⟩), .pointer (some ⟨X + 5, 0, none⟩), .bool cal, x28, x29, x30, x31, x32, undef, undef, undef, undef, undef, undef, undef, undef, undef, undef, x43, x44, x45, x46, x47, x48, x49, x50, x51, x52, x53, x54, x55, x56, x57, x58, x59, x60, x61, x62, x63, x64, x65, x66, x67, x68, x69, x70, x71, x72, x73, x74, x75, x76, x77, x78, x79, x80, x81, x82, x83, x84, x85, x86, x87, x88, x89, x90, x91, x92, x93, x94, x95, x96, x97, x98, x99, x100, x101, x102, x103, x104, x105, x106, x107, x108, x109, x110, x111, x112, x113, x114, x115, x116, x117, x118, x119, x120, x121, x122, x123, x124, x125, x126, x127, x128, x129, x130, x131, x132, x133, x134, x135, x136, x137, x138, x139, x140, x141, x142, x143, x144, x145, x146, x147, x148, x149, x150, x151, x152, x153, x154, x155, x156, x157, x158, x159, x160, x161, x162, x163, x164, x165, x166, x167, x168, x169, x170, x171, x172, x173, x174, x175, x176, x177, x178, x179, x180, x181, x182, x183, x184, x185, x186, x187, x188, x189, x190, x191, x192, x193, x194, x195, x196, x197, x198, x199, x200, x201, x202, x203, x204, x205, x206, x207, x208, x209, x210, x211, x212, x213, x214, x215, x216, x217, x218, x219, x220, x221, x222, x223, x224, x225, x226, x227, x228, x229, x230, x231, x232, x233, x234, x235, x236, x237, x238, x239, x240, x241, x242, x243, x244, x245, x246, x247, x248, x249, x250, x251, x252, x253, x254, x255, x256, x257, x258, x259, x260, x261, x262, x263, x264, x265, x266, x267, x268, x269, x270, x271, x272, x273, x274, x275, x276, x277, x278], defers := [] } wx) :
    Code.wp Yba.prog (findIf 153 (Yba.f3.body.getD .skip)) (Exit.then K Q) { tmps := #[.int .u64 emp, .slice ar lr cr, .slice ab lb cb, .int .u64 me, .int .u64 mk, .slice aq lq cq, undef, .pointer (some ⟨B, 0, none⟩), undef, undef, undef, .pointer (some ⟨B + 1, 0, none⟩), u12, .slice rs lr rc, undef, u15, .map (some m), undef, u18, .pointer (some ⟨L, 0, none⟩), .int .i64 (r : Int), .pointer (some ⟨X, 0, none⟩), .pointer (some ⟨X + 1, 0, none⟩), .pointer (some ⟨X + 2, 0, none⟩), .pointer (some ⟨X + 3, 0, none⟩), .pointer (some ⟨X + 4, 0, none⟩), .pointer (some ⟨X + 5, 0, none⟩), .bool cal, u28, undef, undef, undef, undef, undef, undef, undef, undef, undef, undef, undef, undef, undef, undef, u43, u44, u45, u46, u47, u48, u49, u50, u51, u52, u53, u54, u55, u56, u57, u58, u59, u60, u61, u62, u63, u64, u65, u66, u67, u68, u69, u70, u71, u72, u73, u74, u75, u76, u77, u78, u79, u80, u81, u82, u83, u84, u85, u86, u87, u88, u89, u90, u91, u92, u93, u94, u95, u96, u97, u98, u99, u100, u101, u102, u103, u104, u105, u106, u107, u108, u109, u110, u111, u112, u113, u114, u115, u116, u117, u118, u119, u120, u121, u122, u123, u124, u125, u126, u127, u128, u129, u130, u131, u132, u133, u134, u135, u136, u137, u138, u139, u140, u141, u142, u143, u144, u145, u146, u147, u148, u149, u150, u151, u152, .bool cal, u154, u155, u156, u157, u158, u159, u160, u161, u162, u163, u164, u165, u166, u167, u168, u169, u170, u171, u172, u173, u174, u175, u176, u177, u178, u179, u180, u181, u182, u183, u184, u185, u186, u187, u188, u189, u190, u191, u192, u193, u194, u195, u196, u197, u198, u199, u200, u201, u202, u203, u204, u205, u206, u207, u208, u209, u210, u211, u212, u213, u214, u215, u216, u217, u218, u219, u220, u221, u222, u223, u224, u225, u226, u227, u228, u229, u230, u231, u232, u233, u234, u235, u236, u237, u238, u239, u240, u241, u242, u243, u244, u245, u246, u247, u248, u249, u250, u251, u252, u253, u254, u255, u256, u257, u258, u259, u260, u261, u262, u263, u264, u265, u266, u267, u268, u269, u270, u271, u272, u273, u274, u275, u276, u277, u278], defers := [] } wc := by
  have HK : Hid _ := hK
  clear hK
  show Code.wp Yba.prog (Code.cond _ _ _) _ _ _
  cases cal with
  | false =>
    clear hran
    go_wp2
    exact HK.out _ _ _ _ _ _ _ _ _ _ _ _ _ _ _ _ _ _ _ _ _ _ _ _ _ _ _ _ _ _ _ _ _ _ _ _ _ _ _ _ _ _ _ _ _ _ _ _ _ _ _ _ _ _ _ _ _ _ _ _ _ _ _ _ _ _ _ _ _ _ _ _ _ _ _ _ _ _ _ _ _ _ _ _ _ _ _ _ _ _ _ _ _ _ _ _ _ _ _ _ _ _ _ _ _ _ _ _ _ _ _ _ _ _ _ _ _ _ _ _ _ _ _ _ _ _ _ _ _ _ _ _ _ _ _ _ _ _ _ _ _ _ _ _ _ _ _ _ _ _ _ _ _ _ _ _ _ _ _ _ _ _ _ _ _ _ _ _ _ _ _ _ _ _ _ _ _ _ _ _ _ _ _ _ _ _ _ _ _ _ _ _ _ _ _ _ _ _ _ _ _ _ _ _ _ _ _ _ _ _ _ _ _ _ _ _ _ _ _ _ _ _ _ _ _ _ _ _ _ _ _ _ _ _ _ _ _ _ _ _ _ _ _ _ _ ho
  | true =>
    obtain ⟨hq, hr, HR⟩ := hran rfl
    clear hran
    obtain ⟨qs, qc, rfl⟩ := own_slice HR.oq
    obtain ⟨ys, yc, rfl⟩ := own_slice HR.or
    have c4 : wc.cell? ⟨X + 4, 0, none⟩ = some (.slice qs lq qc) := cell_of HR.v4 rfl
    have c5 : wc.cell? ⟨X + 5, 0, none⟩ = some (.slice ys lr yc) := cell_of HR.v5 rfl
    have FF := facts_of HB p hown4 HP.out ho
    have cB := FF.cB
    have cQ := FF.cQ
    have HH : Hid (∀ (n : Nat) (s : ByteArray), Calls Yba.prog 6 #[.slice ab lb cb, .string s] (wc.drewN n) fun e w' => e = .returned (.bool (hasB fb lb s)) ∧ w' = wc.drewN n) := has_out FF.tb hlb
    go_wp2
    go_loopw [168] (fun i wr => ∃ j n : Nat, j ≤ lq ∧ i = .int .i64 j ∧ wr = wc.drewN n) (fun i _ => lq - (intOf i).toNat)
    case atStart => exact ⟨0, 0, Nat.zero_le _, rfl, rfl⟩
    case round =>
      obtain ⟨j, n0, hj, rfl, rfl⟩ := hrel
      by_cases hlt4 : j < lq
      · obtain ⟨b, off, rfl, hb, hcs⟩ := FF.tq (by omega)
        have hct := hcs j hlt4
        obtain ⟨g, gc, he, _, _⟩ := HR.oq.form (by omega)
        cases he
        have hca := ans_cell HR.oq j hlt4
        clear hcs
        go_upto_region 45 with fail
        go_quiet (first | (go_at_call 6; exact quiet_plus (HH.out _ _)))
        go_wp2
        go_roundw
        case rel => exact ⟨j + 1, n0 + nq, by omega, by go_num, by simp [World.drewN]⟩
        case measure => simp [intOf]; omega
      · obtain rfl : lq = j := by omega
        go_wp2
        go_loopw [184] (fun i wr => ∃ j n : Nat, j ≤ lr ∧ i = .int .i64 j ∧ wr = wc.drewN n) (fun i _ => lr - (intOf i).toNat)
        case atStart => exact ⟨0, n0, Nat.zero_le _, rfl, rfl⟩
        case round =>
          obtain ⟨t, n1, ht, rfl, rfl⟩ := hrel
          by_cases hlt5 : t < lr
          · obtain ⟨b, off, rfl, hb, hcs⟩ := FF.tr (by omega)
            have hct := hcs t hlt5
            obtain ⟨g, gc, he, _, _⟩ := HR.or.form (by omega)
            cases he
            have hca := ans_cell HR.or t hlt5
            clear hcs
            go_upto_region 51 with fail
            go_quiet (first | (go_at_call 6; exact quiet_plus (HH.out _ _)))
            go_wp2
            go_roundw
            case rel => exact ⟨t + 1, n1 + nq, by omega, by go_num, by simp [World.drewN]⟩
            case measure => simp [intOf]; omega
          · obtain rfl : lr = t := by omega
            go_wp2
            exact HK.out _ _ _ _ _ _ _ _ _ _ _ _ _ _ _ _ _ _ _ _ _ _ _ _ _ _ _ _ _ _ _ _ _ _ _ _ _ _ _ _ _ _ _ _ _ _ _ _ _ _ _ _ _ _ _ _ _ _ _ _ _ _ _ _ _ _ _ _ _ _ _ _ _ _ _ _ _ _ _ _ _ _ _ _ _ _ _ _ _ _ _ _ _ _ _ _ _ _ _ _ _ _ _ _ _ _ _ _ _ _ _ _ _ _ _ _ _ _ _ _ _ _ _ _ _ _ _ _ _ _ _ _ _ _ _ _ _ _ _ _ _ _ _ _ _ _ _ _ _ _ _ _ _ _ _ _ _ _ _ _ _ _ _ _ _ _ _ _ _ _ _ _ _ _ _ _ _ _ _ _ _ _ _ _ _ _ _ _ _ _ _ _ _ _ _ _ _ _ _ _ _ _ _ _ _ _ _ _ _ _ _ _ _ _ _ _ _ _ _ _ _ _ _ _ _ _ _ _ _ _ _ _ _ _ _ _ _ _ _ _ _ _ _ _ _ (out_drewN ho n1)
end Go.Proofs.Ybulkdupw
