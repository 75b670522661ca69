import Derived.Test.YbulkdupwLawC
namespace Go.Proofs.Ybulkdupw
open Go.RowKit

set_option maxRecDepth 100000 in
set_option maxHeartbeats 1000000 in
theorem law_small {lr lb lq cr cb cq : Nat} {ar ab aq : Option Addr} {fr fb fq : Nat → ByteArray} (emp me mk : Int) (w : World) (hlr : lr ≤ 4096) (hlb : lb ≤ 4096) (hlq : lq ≤ 4096)
    (tr : TextsB w.heap.size w ar lr fr) (tb : TextsB w.heap.size w ab lb fb) (tq : TextsB w.heap.size w aq lq fq) (hmk : 0 ≤ mk) (hmk2 : mk < 18446744073709551616) :
    Calls Yba.prog 3 #[.int .u64 emp, .slice ar lr cr, .slice ab lb cb, .int .u64 me, .int .u64 mk, .slice aq lq cq] w fun e w' => e = .returned (.bool true) ∧ Below w.heap.size w w' := by
  have h1 : ¬ (4096 : Int) < (lr : Int) := by omega
  have h2 : ¬ (4096 : Int) < (lb : Int) := by omega
  have h3 : ¬ (4096 : Int) < (lq : Int) := by omega
  go_enter Yba.func3, Yba.ntmps3
  go_upto_region 3 with fail
  obtain ⟨w2, hw2⟩ : ∃ w2, w2 = (w.alloc (.cells #[.slice ar lr cr] 23)).alloc (.cells #[.slice aq lq cq] 23) := ⟨_, rfl⟩
  rw [← hw2]
  obtain ⟨HB, hbl2⟩ := boxed tr tq tb hw2
  clear hw2 tr tq tb h1 h2 h3
  obtain ⟨B, hB⟩ : ∃ B, B = w.heap.size := ⟨_, rfl⟩
  rw [← hB] at HB hbl2 ⊢
  have HW : Hid (B = w.heap.size) := hB
  clear hB
  have c0 : w2.cell? ⟨B, 0, none⟩ = some (.slice ar lr cr) := cell_of HB.b0 rfl
  go_wp2
  obtain ⟨i6, h6, z60, z61, z62⟩ := info_parts Yba.info36
  have hmm := @run_makeMap Yba.prog
  go_loopw [13, 58] (fun v i wr => ∃ j : Nat, j ≤ lr ∧ i = .int .i64 j ∧ wr.ownsRow (B + 2) 36 5 v j (keyCells fr j) ∧ Below (B + 2) w2 wr) (fun _ i _ => lr - (intOf i).toNat)
  case atStart => exact ⟨0, Nat.zero_le _, rfl, World.ownsRow_nil _ _ _ _, Below.refl _ _⟩
  case round =>
    obtain ⟨j, hj, rfl, hown, hbl⟩ := hrel
    by_cases hlt : j < lr
    · obtain ⟨b, off, rfl, hb, hcs⟩ := HB.tr (by omega)
      have hcj : wr.cell? ⟨b, off + j, none⟩ = some (.string (fr j)) := (hbl.cell (p := ⟨b, off + j, none⟩) (by show b < B + 2; omega)).trans (hcs j hlt)
      clear hcs
      have hbs : B + 2 ≤ wr.heap.size := by have := hbl.size; have := HB.size; omega
      go_wp2_with (at_builtin; refine wpList_append_lies _ rfl _ _ 25 rfl (B + 2) 36 i6 (kv ⟨#[]⟩) 5 48 Yba.underlying25 h6 z60 z61 z62 rfl (by decide) _ j (keyCells fr j) rfl (hown.alloc _) ⟨wr.heap.size, 0, none⟩ 1 1 [.int .u64 0, .int .u64 0, .pointer none, .int .u8 0, .string (fr j)] rfl rfl (new_cells wr [.int .u64 0, .int .u64 0, .pointer none, .int .u8 0, .string (fr j)] 36) (by simp [Value.oneCell']) (by omega) (by unfold maxLen; omega) (by omega) (by simp; omega) _ rfl ?_; intro g1 cap1 w1 hown1 hgrow1 hat1 hlt1)
      go_roundw
      case rel => exact ⟨j + 1, by omega, by go_num, by rw [keyCells_succ]; exact hown1, (hbl.alloc (by omega) _).grown hgrow1 (by simp; omega) (fun k hk => (hown.lt k hk).1)⟩
      case measure => simp [intOf]; omega
    · obtain rfl : lr = j := by omega
      obtain ⟨rs, rc, rfl⟩ := own_slice hown
      go_wp2_with fail
      obtain ⟨m, hm⟩ : ∃ m, m = wr.heap.size := ⟨_, rfl⟩
      rw [← hm]
      have HM : Hid (m = wr.heap.size) := hm
      clear hm
      go_loopw [71] (fun i ws => ∃ (t n : Nat), t ≤ lb ∧ i = .int .i64 t ∧ Raw.Is ws m n (Mp fb t) ∧ ws.ownsRow (B + 2) 36 5 (.slice rs lr rc) lr (keyCells fr lr) ∧ Below (B + 2) w2 ws) (fun i _ => lb - (intOf i).toNat)
      case atStart => exact ⟨0, 0, Nat.zero_le _, rfl, by rw [HM.out]; exact (Raw.made wr).congr Mp_zero, hown.alloc _, hbl.alloc (by have := hbl.size; have := HB.size; omega) _⟩
      case round =>
        rename_i wr0 _ _ _
        have HMB : Hid (B + 2 ≤ m) := by
          have e1 := hbl.size
          have e2 := HB.size
          have e3 := HM.out
          show B + 2 ≤ m
          omega
        clear hown hbl HM
        obtain ⟨t, n, ht, rfl, his, hown, hbl⟩ := hrel
        have hbs : B + 2 ≤ wr.heap.size := by have := hbl.size; have := HB.size; omega
        by_cases hlt2 : t < lb
        · obtain ⟨b, off, rfl, hb, hcs⟩ := HB.tb (by omega)
          have hct : wr.cell? ⟨b, off + t, none⟩ = some (.string (fb t)) := (hbl.cell (p := ⟨b, off + t, none⟩) (by show b < B + 2; omega)).trans (hcs t hlt2)
          clear hcs
          go_wp2_with (at_mapUpdate; refine Raw.wpList_store _ rfl _ _ _ 37 rfl 36 42 IsKey (banKeyV _) Yba.underlying37 m n (Mp fb t) Mp_key rfl his (kv (fb t)) (bv (fb t)) rfl rfl ⟨_, rfl⟩ ?_; intro w5 n' a1 a2 _ _ _)
          go_roundw
          case rel => exact ⟨t + 1, n', by omega, by go_num, a1.congr Mp_put, hown.kept a2 (own_ne_map hown his), hbl.grown a2 hbs (fun k hk => by cases hk; exact HMB.out)⟩
          case measure => simp [intOf]; omega
        · obtain rfl : lb = t := by omega
          obtain ⟨Z, hz, zs, z2, z4, z5, z6⟩ := zero66
          have hs1 : ¬ Z.size < 9 := by omega
          have hs2 : ¬ Z.size < 274 := by omega
          have hs3 : ¬ Z.size < 275 := by omega
          have HZ : Hid (275 ≤ Z.size ∧ Z[2]? = some (.int .i32 0) ∧ Z[4]? = some (.int .u32 0) ∧ Z[5]? = some (.int .u32 0) ∧ Z[6]? = some (.int .i32 0)) := ⟨zs, z2, z4, z5, z6⟩
          clear zs z2 z4 z5 z6
          go_upto_region 16 with fail
          obtain ⟨L, hLe⟩ : ∃ L, L = wr.heap.size := ⟨_, rfl⟩
          rw [← hLe]
          obtain ⟨w3, hw3⟩ : ∃ w3, w3 = wr.alloc (.cells (((Z.setIfInBounds 8 (.map (some m))).setIfInBounds 273 (.slice rs lr rc)).setIfInBounds 274 (.int .u64 emp)) 66) := ⟨_, rfl⟩
          rw [← hw3]
          obtain ⟨A, HL⟩ := listed (emp := emp) HZ.out his hown hbl hbs hw3
          rw [← hLe] at HL
          have HL : Hid (Listed B L m n lr rc lb rs fr fb emp A w2 w3) := HL
          clear hw3 hLe HZ hz hs1 hs2 hs3 his hown hbl hbs
          obtain ⟨r, hr, hrl⟩ : ∃ r : Nat, wrap64 (mk % (↑lr + 2)) = (r : Int) ∧ r < lr + 2 := by
            have e1 := Int.emod_nonneg mk (b := (lr : Int) + 2) (by omega)
            have e2 := Int.emod_lt_of_pos mk (b := (lr : Int) + 2) (by omega)
            refine ⟨(mk % ((lr : Int) + 2)).toNat, ?_, by omega⟩
            unfold wrap64
            omega
          go_upto_region 23 with fail
          obtain ⟨w4, hw4⟩ : ∃ w4, w4 = (((((w3.alloc (Obj.cells #[Value.int IntKind.i64 0] 3)).alloc (Obj.cells #[Value.slice none 0 0] 25)).alloc (Obj.cells #[Value.bool false] 4)).alloc (Obj.cells #[Value.bool false] 4)).alloc (Obj.cells #[Value.slice none 0 0] 67)).alloc (Obj.cells #[Value.slice none 0 0] 67) := ⟨_, rfl⟩
          rw [← hw4]
          obtain ⟨p, hb34⟩ := pre_made HB HL.out hlq hlr hw4
          have hown4 := HL.out.own.kept (grown_of_below hb34) (by cases (Value.slice rs lr rc).ownBlock <;> simp)
          have HP : Hid (Below (B + 2) w2 w4 ∧ B + 2 ≤ L ∧ (∀ k, (Value.slice rs lr rc).ownBlock = some k → k < L)) := ⟨HL.out.bel.trans (hb34.mono (by have := HL.out.size; have := HL.out.BL; omega)), HL.out.BL, HL.out.ownL⟩
          rw [HL.out.size]
          clear hw4 hb34 HL
          rw [hr]
          obtain ⟨X, hX⟩ : ∃ X, X = L + 1 := ⟨_, rfl⟩
          rw [← hX] at p ⊢
          rw [show X + 1 + 1 + 1 + 1 + 1 = X + 5 from rfl, show X + 1 + 1 + 1 + 1 = X + 4 from rfl, show X + 1 + 1 + 1 = X + 3 from rfl, show X + 1 + 1 = X + 2 from rfl]
          clear hX hr hmk hmk2 HMB
          have hmf : ∀ (fn : Fn) (first cap : Array Value) (w : World), (Instr.makeFunc fn first cap).run Yba.prog w = .ok (.func fn first cap) w := fun _ _ _ _ => rfl
          go_upto_if 101 with (go_at_call 4; go_loud (refine (left_all p hown4 HP.out.2.2 me r).mono ?_; rintro e w5 ⟨rfl, hd⟩))
          refine part_checks HB p hown4 HP hlr hlb hlq hrl hd ?_
          intro cal x12 x15 x18 x28 x43 x44 x45 x46 x47 x48 x49 x50 x51 x52 x53 x54 x55 x56 x57 x58 x59 x60 x61 x62 x63 x64 x65 x66 x67 x68 x69 x70 x71 x72 x73 x74 x75 x76 x77 x78 x79 x80 x81 x82 x83 x84 x85 x86 x87 x88 x89 x90 x91 x92 x93 x94 x95 x96 x97 x98 x99 x100 x101 x102 x103 x104 x105 x106 x107 x108 x109 x110 x111 x112 x113 x114 x115 x116 x117 x118 x119 x120 x121 x122 x123 x124 x125 x126 x127 x128 x129 x130 x131 x132 x133 x134 x135 x136 x137 x138 x139 x140 x141 x142 x143 x144 x145 x146 x147 x148 x149 x150 x151 x152 x153 x154 x155 x156 x157 x158 x159 x160 x161 x162 x163 x164 x165 x166 x167 x168 x169 x170 x171 x172 x173 x174 x175 x176 x177 x178 x179 x180 x181 x182 x183 x184 x185 x186 x187 x188 x189 x190 x191 x192 x193 x194 x195 x196 x197 x198 x199 x200 x201 x202 x203 x204 x205 x206 x207 x208 x209 x210 x211 x212 x213 x214 x215 x216 x217 x218 x219 x220 x221 x222 x223 x224 x225 x226 x227 x228 x229 x230 x231 x232 x233 x234 x235 x236 x237 x238 x239 x240 x241 x242 x243 x244 x245 x246 x247 x248 x249 x250 x251 x252 x253 x254 x255 x256 x257 x258 x259 x260 x261 x262 x263 x264 x265 x266 x267 x268 x269 x270 x271 x272 x273 x274 x275 x276 x277 x278 wx ho hran
          clear hd hrl
          go_upto_if 153 with fail
          refine part_answers HB p hown4 HP hlr hlb hlq ho hran ?_
          intro y12 y15 y18 y28 y29 y30 y31 y32 y43 y44 y45 y46 y47 y48 y49 y50 y51 y52 y53 y54 y55 y56 y57 y58 y59 y60 y61 y62 y63 y64 y65 y66 y67 y68 y69 y70 y71 y72 y73 y74 y75 y76 y77 y78 y79 y80 y81 y82 y83 y84 y85 y86 y87 y88 y89 y90 y91 y92 y93 y94 y95 y96 y97 y98 y99 y100 y101 y102 y103 y104 y105 y106 y107 y108 y109 y110 y111 y112 y113 y114 y115 y116 y117 y118 y119 y120 y121 y122 y123 y124 y125 y126 y127 y128 y129 y130 y131 y132 y133 y134 y135 y136 y137 y138 y139 y140 y141 y142 y143 y144 y145 y146 y147 y148 y149 y150 y151 y152 y153 y154 y155 y156 y157 y158 y159 y160 y161 y162 y163 y164 y165 y166 y167 y168 y169 y170 y171 y172 y173 y174 y175 y176 y177 y178 y179 y180 y181 y182 y183 y184 y185 y186 y187 y188 y189 y190 y191 y192 y193 y194 y195 y196 y197 y198 y199 y200 y201 y202 y203 y204 y205 y206 y207 y208 y209 y210 y211 y212 y213 y214 y215 y216 y217 y218 y219 y220 y221 y222 y223 y224 y225 y226 y227 y228 y229 y230 y231 y232 y233 y234 y235 y236 y237 y238 y239 y240 y241 y242 y243 y244 y245 y246 y247 y248 y249 y250 y251 y252 y253 y254 y255 y256 y257 y258 y259 y260 y261 y262 y263 y264 y265 y266 y267 y268 y269 y270 y271 y272 y273 y274 y275 y276 y277 y278 wc hcut
          clear ho hran
          have ho := hcut
          clear hcut
          have FF := facts_of HB p hown4 HP.out ho
          have l274 := FF.l274
          have l273 := FF.l273
          have cB := FF.cB
          have hd1 : (emp != emp) = false := by simp
          have hd2 : ((lr : Int) != (lr : Int)) = false := by simp
          have hnk := neq_key_same
          go_upto_region 54 with fail
          go_quiet (fail)
          go_wp2
          go_loopw [216] (fun i wr => ∃ j : Nat, j ≤ lr ∧ i = .int .i64 j ∧ wr = wc.drewN nq) (fun i _ => lr - (intOf i).toNat)
          case atStart => exact ⟨0, Nat.zero_le _, rfl, rfl⟩
          case round =>
            obtain ⟨j, hj, rfl, rfl⟩ := hrel
            by_cases hlt6 : j < lr
            · obtain ⟨b, off, rfl, hb, hcs⟩ := FF.tr (by omega)
              have hct := hcs j hlt6
              obtain ⟨g, gc, he, _, _⟩ := FF.own.form (by omega)
              cases he
              have HO : wc.ownsRow (B + 2) 36 5 (.slice (some ⟨g, 0, none⟩) lr rc) lr ((keyCells fr lr).drop (0 * 5)) := by simpa using FF.own
              obtain ⟨k0, k1, k2, k3, k4⟩ := row_five HO (by omega) j hlt6
              rw [Nat.zero_add] at k4
              clear hcs HO
              go_wp2
              go_roundw
              case rel => exact ⟨j + 1, by omega, by go_num, by trivial⟩
              case measure => simp [intOf]; omega
            · obtain rfl : lr = j := by omega
              go_wp2
              have ho7 := out_drewN ho nq
              clear FF l274 l273 cB hd1 hd2 hnk ho
              go_loopw [234] (fun i wr => ∃ j : Nat, j ≤ lb ∧ i = .int .i64 j ∧ Out X w4 wr) (fun i _ => lb - (intOf i).toNat)
              case atStart => exact ⟨0, Nat.zero_le _, rfl, ho7⟩
              case round =>
                clear ho7
                obtain ⟨t, ht, rfl, ho⟩ := hrel
                by_cases hlt7 : t < lb
                · have FF := facts_of HB p hown4 HP.out ho
                  have HO : Hid (Out X w4 wr) := ho
                  obtain ⟨b, off, rfl, hb, hcs⟩ := FF.tb (by omega)
                  have hct := hcs t hlt7
                  have l8 := FF.l8
                  have hlk := look_true FF.hM (hasB_of hlt7 rfl)
                  clear hcs FF ho
                  go_wp2
                  go_roundw
                  case rel => exact ⟨t + 1, by omega, by go_num, out_alloc HO.out _⟩
                  case measure => simp [intOf]; omega
                · obtain rfl : lb = t := by omega
                  have FF := facts_of HB p hown4 HP.out ho
                  have cB := FF.cB
                  go_wp2
                  clear FF cB
                  go_loopw [259] (fun i wr => ∃ j : Nat, j ≤ lr ∧ i = .int .i64 j ∧ Out X w4 wr) (fun i _ => lr - (intOf i).toNat)
                  case atStart => exact ⟨0, Nat.zero_le _, rfl, ho⟩
                  case round =>
                    clear ho
                    obtain ⟨t, ht, rfl, ho⟩ := hrel
                    by_cases hlt8 : t < lr
                    · have FF := facts_of HB p hown4 HP.out ho
                      have HO : Hid (Out X w4 wr) := ho
                      have HT : Hid (∀ o s, Calls Yba.prog 6 #[.slice ab lb cb, .string s] (wr.alloc o) fun e w' => e = .returned (.bool (hasB fb lb s)) ∧ w' = wr.alloc o) := fun o s => has_any ab lb cb fb s _ hlb (facts_of HB p hown4 HP.out (out_alloc ho o)).tb
                      obtain ⟨b, off, rfl, hb, hcs⟩ := FF.tr (by omega)
                      have hct := hcs t hlt8
                      have l8 := FF.l8
                      have hM := FF.hM
                      clear hcs FF ho
                      cases hs : hasB fb lb (fr t) with
                      | true =>
                        have hlk := look_true hM hs
                        clear hM
                        go_wp2_with (go_at_call 6; refine (HT.out _ _).mono ?_; rintro e w' ⟨rfl, rfl⟩)
                        go_roundw
                        case rel => exact ⟨t + 1, by omega, by go_num, out_alloc HO.out _⟩
                        case measure => simp [intOf]; omega
                      | false =>
                        have hlk := look_false hM hs
                        clear hM
                        go_wp2_with (go_at_call 6; refine (HT.out _ _).mono ?_; rintro e w' ⟨rfl, rfl⟩)
                        go_roundw
                        case rel => exact ⟨t + 1, by omega, by go_num, out_alloc HO.out _⟩
                        case measure => simp [intOf]; omega
                    · obtain rfl : lr = t := by omega
                      go_wp2
                      go_ret
                      refine ⟨rfl, ?_⟩
                      rw [← HW.out]
                      exact below_end hbl2 HP.out.1 ho HP.out.2.1 p.hLX p.hv.lt
end Go.Proofs.Ybulkdupw
