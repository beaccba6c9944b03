/-
  OUR OWN. 'LawS4731CExact' (function 5): its last loops: the pairs that came are the model's.
-/
import Derived.Test.YbulkcsymTail
import Derived.Deep.WholeRow
namespace Go.Proofs.Ybulkcsym
open Go.RowKit

theorem wpList_store7 {ops : Array Oper} {rest : List Oper} {o : Oper} {a : Act} {W0 : World} {Q : Exit → Act → World → Prop} (hgd : o.guard = none) (p q : Operand) (ho : o.op = .store 96 p q) (W : World) (hW : W0 = W.alloc (.cells #[.int .i64 0, .int .i64 0, .int .i64 0, .int .i64 0, .int .i64 0, .int .i64 0, .int .i64 0] 96)) (B k y z : Nat) (hB : B = W.heap.size) (hx : a.eval p = .pointer (some ⟨B, 0, none⟩))
    (hy : a.eval q = .agg #[.int .i64 5, .int .i64 0, .int .i64 (k : Int), .int .i64 0, .int .i64 (y : Int), .int .i64 (z : Int), .int .i64 0])
    (h : ∀ W' : World, Below W.heap.size W W' → W'.cell? ⟨B, 0, none⟩ = some (.int .i64 5) → W'.cell? ⟨B, 1, none⟩ = some (.int .i64 0) → W'.cell? ⟨B, 2, none⟩ = some (.int .i64 (k : Int)) → W'.cell? ⟨B, 3, none⟩ = some (.int .i64 0) → W'.cell? ⟨B, 4, none⟩ = some (.int .i64 (y : Int)) → W'.cell? ⟨B, 5, none⟩ = some (.int .i64 (z : Int)) → W'.cell? ⟨B, 6, none⟩ = some (.int .i64 0) → wpList Yba.prog ops Q rest (a.put o.dst undef) W') : wpList Yba.prog ops Q (o :: rest) a W0 := by
  subst hW hB
  refine wpList_store_row hgd 96 p q ho W.heap.size _ hx hy 96 #[.int .i64 0, .int .i64 0, .int .i64 0, .int .i64 0, .int .i64 0, .int .i64 0, .int .i64 0] (by show (W.heap.push _)[W.heap.size]? = some _; simp only [Array.getElem?_push_size]) (by kernel_rfl) rfl (by simp [Value.oneCell']) ?_
  rw [World.setRow_alloc_new]
  have hb := Blk.made W #[.int .i64 5, .int .i64 0, .int .i64 (k : Int), .int .i64 0, .int .i64 (y : Int), .int .i64 (z : Int), .int .i64 0] 96
  exact h _ ((Below.refl _ _).alloc (Nat.le_refl _) _) (hb.cell rfl) (hb.cell rfl) (hb.cell rfl) (hb.cell rfl) (hb.cell rfl) (hb.cell rfl) (hb.cell rfl)

set_option maxRecDepth 100000 in
set_option maxHeartbeats 4000000 in
theorem tail19 (w w5 : World) (K : Act → World → Prop) (hK : ∀ a wx, (restOf Yba.f5.body 19).wp Yba.prog (bodyPost Yba.prog Yba.f5 fun e w' => e = .returned (.bool true) ∧ Below w.heap.size w w') a wx → K a wx)
    {u0 u1 u2 u3 u4 u5 u6 u7 u8 u9 u11 u14 u15 u16 u17 u18 u20 u21 u22 u23 u25 u26 u27 u30 u31 u32 u33 u34 u35 u36 u37 u38 u39 u40 u41 u42 u43 u44 u45 u46 u47 u48 u49 u50 u51 u52 u53 u54 u55 u56 u57 u58 u59 u60 u61 u62 u63 u64 u65 u66 u67 u68 u69 u70 u71 u72 u73 u74 u75 u76 u77 u78 u79 u80 u81 u82 u83 u84 u85 u86 u87 u88 u89 u90 u91 u92 u93 u94 u95 u96 u97 u98 u99 u100 u101 u102 u103 u104 u105 u106 u107 u108 u109 u110 u111 u112 u113 u114 u115 u116 u117 u118 u119 u120 u121 u122 u123 u124 u125 u126 u127 u128 u129 u130 u131 u132 u133 u134 u135 u136 u137 u138 u139 u140 u141 u142 u143 u144 u145 u146 u147 u148 u149 u150 u151 u152 u153 u154 u155 u156 u157 u158 u159 u160 u161 u162 u163 u164 u165 u166 u167 u168 u169 u170 u171 u172 u173 u174 u175 u176 u177 u178 u179 u180 u181 u182 u183 u184 u185 u186 u187 u188 u189 u190 u191 u192 u193 u194 u195 u196 u197 u198 u199 u200 u201 u202 u203 u204 u205 u206 u207 u208 u209 u210 u211 u212 u213 u214 u215 u216 u217 u218 u219 u220 u221 u222 u223 u224 u225 u226 u227 u228 u229 u230 u231 u232 u233 u234 u235 u236 u237 u238 u239 u240 u241 u242 u243 u244 u245 u246 u247 u248 u249 u250 u251 u252 u253 u254 u255 u256 u257 u258 u259 u260 u261 u262 u263 u264 u265 u266 u267 u268 u269 u270 u271 u272 u273 u274 u275 u276 u277 u278 u279 u280 u281 u282 u283 u284 u285 u286 u287 u288 u289 u290 u291 u292 u293 u294 u295 u296 u297 u298 u299 u300 u301 u302 u303 u304 u305 u306 u307 u308 u309 u310 u311 u312 u313 u314 u315 u316 u317 u318 u319 u320 u321 u322 u323 u324 u325 u326 u327 u328 u329 u330 u331 u332 u333 u334 u335 u336 u337 u338 u339 u340 u341 u342 u343 u344 u345 u346 u347 u348 : Value} (S n N M Tc so io mb kb base : Nat) (Ta : Option Addr) (ws : Nat → List Nat) (av : Nat → Option Addr) (gb cp : Nat → Nat) (pr : Nat → Nat → Bool)
    (HZ : Hid (∀ wq, Below w5.heap.size w5 wq → ∀ y z, y < n → z < n → Calls Yba.prog 16 #[.slice (some ⟨so, 0, none⟩) n n, .slice (some ⟨io, 0, none⟩) n n, .slice (some ⟨mb, 0, none⟩) N N, .int .i64 S, .int .i64 y, .int .i64 z] wq fun e w' => e = .returned (.bool (pr y z)) ∧ ∃ m, w' = wq.drewN m))
    (HW5 : Hid (Wri w5 w5.heap.size kb n ws av gb cp)) (HRow : Hid (w5.ownsRow base 96 7 (.slice Ta M Tc) M ((pk pr ws 4).flatMap pairC))) (HMM : Hid (M = (pk pr ws 4).length)) (hM5 : M ≤ 500000) (hbw : Below w.heap.size w w5) :
    K { tmps := #[u0, u1, u2, u3, u4, u5, u6, u7, u8, u9, .int .i64 S, u11, .slice (some ⟨so, 0, none⟩) n n, .slice (some ⟨io, 0, none⟩) n n, u14, u15, u16, u17, u18, .slice (some ⟨mb, 0, none⟩) N N, u20, u21, u22, u23, .slice (some ⟨kb, 0, none⟩) 4 4, u25, u26, u27, .slice Ta M Tc, .int .i64 0, u30, u31, u32, u33, u34, u35, u36, u37, u38, u39, u40, u41, u42, u43, u44, u45, u46, u47, u48, u49, u50, u51, u52, u53, u54, u55, u56, u57, u58, u59, u60, u61, u62, u63, u64, u65, u66, u67, u68, u69, u70, u71, u72, u73, u74, u75, u76, u77, u78, u79, u80, u81, u82, u83, u84, u85, u86, u87, u88, u89, u90, u91, u92, u93, u94, u95, u96, u97, u98, u99, u100, u101, u102, u103, u104, u105, u106, u107, u108, u109, u110, u111, u112, u113, u114, u115, u116, u117, u118, u119, u120, u121, u122, u123, u124, u125, u126, u127, u128, u129, u130, u131, u132, u133, u134, u135, u136, u137, u138, u139, u140, u141, u142, u143, u144, u145, u146, u147, u148, u149, u150, u151, u152, u153, u154, u155, u156, u157, u158, u159, u160, u161, u162, u163, u164, u165, u166, u167, u168, u169, u170, u171, u172, u173, u174, u175, u176, u177, u178, u179, u180, u181, u182, u183, u184, u185, u186, u187, u188, u189, u190, u191, u192, u193, u194, u195, u196, u197, u198, u199, u200, u201, u202, u203, u204, u205, u206, u207, u208, u209, u210, u211, u212, u213, u214, u215, u216, u217, u218, u219, u220, u221, u222, u223, u224, u225, u226, u227, u228, u229, u230, u231, u232, u233, u234, u235, u236, u237, u238, u239, u240, u241, u242, u243, u244, u245, u246, u247, u248, u249, u250, u251, u252, u253, u254, u255, u256, u257, u258, u259, u260, u261, u262, u263, u264, u265, u266, u267, u268, u269, u270, u271, u272, u273, u274, u275, u276, u277, u278, u279, u280, u281, u282, u283, u284, u285, u286, u287, u288, u289, u290, u291, u292, u293, u294, u295, u296, u297, u298, u299, u300, u301, u302, u303, u304, u305, u306, u307, u308, u309, u310, u311, u312, u313, u314, u315, u316, u317, u318, u319, u320, u321, u322, u323, u324, u325, u326, u327, u328, u329, u330, u331, u332, u333, u334, u335, u336, u337, u338, u339, u340, u341, u342, u343, u344, u345, u346, u347, u348], defers := [] } w5 := by
  refine hK _ _ ?_
  refine wp_seq_of (show restOf Yba.f5.body 19 = Code.seq _ _ from rfl) ?_
  go_wp2
  go_loopw [29, 30] (fun mm i wq => ∃ (κ m : Nat), κ ≤ 4 ∧ i = .int .i64 κ ∧ mm = .int .i64 (m : Nat) ∧ m = (pre pr ws κ 0 0).length ∧ Below w5.heap.size w5 wq) (fun _ i _ => 4 - (intOf i).toNat)
  case atStart => exact ⟨0, 0, Nat.zero_le _, rfl, rfl, rfl, Below.refl _ _⟩
  case round =>
    obtain ⟨κ, m0, hκ, rfl, rfl, hm0, hb6⟩ := hrel
    have HM0 := hide hm0
    clear hm0
    by_cases hκ4 : κ < 4
    · have hκ' : decide ((κ : Int) < 4) = true := decide_eq_true (by omega)
      have hW6 := HW5.out.below hb6
      have c1 := hW6.hdr κ hκ4
      obtain ⟨L1, hL1⟩ : ∃ L, L = (ws κ).length := ⟨_, rfl⟩
      obtain ⟨A, hA⟩ : ∃ A, A = av κ := ⟨_, rfl⟩
      obtain ⟨C, hC⟩ : ∃ C, C = cp κ := ⟨_, rfl⟩
      rw [← hL1, ← hA, ← hC] at c1
      have hL13 : L1 ≤ 300 := by rw [hL1]; exact HW5.out.len κ hκ4
      have HL1 := hide hL1
      have HA := hide hA
      clear hL1 hA hC hW6
      go_wp2
      clear c1
      go_loopw [29, 32] (fun mm i wq => ∃ (i' m : Nat), i' ≤ L1 ∧ i = .int .i64 i' ∧ mm = .int .i64 (m : Nat) ∧ m = (pre pr ws κ i' 0).length ∧ Below w5.heap.size w5 wq) (fun _ i _ => L1 - (intOf i).toNat)
      case atStart => exact ⟨0, m0, Nat.zero_le _, rfl, rfl, HM0.out, hb6⟩
      case round =>
        clear hb6
        obtain ⟨i', m1, hi', rfl, rfl, hm1, hb7⟩ := hrel
        have HM1 := hide hm1
        clear hm1
        by_cases hiL : i' < L1
        · have hi1 : decide ((i' : Int) < (L1 : Int)) = true := decide_eq_true (by omega)
          obtain ⟨G, hG⟩ : ∃ G, G = gb κ := ⟨_, rfl⟩
          have hA0 : A = some ⟨G, 0, none⟩ := by rw [HA.out, hG]; exact HW5.out.at0 κ hκ4 (by rw [← HL1.out]; omega)
          have HGG := hide hG
          clear hG
          subst hA0
          obtain ⟨y, hy⟩ : ∃ y, y = (ws κ).getD i' 0 := ⟨_, rfl⟩
          have hyn : y < n := by rw [hy]; exact HW5.out.val κ hκ4 i' (by rw [← HL1.out]; exact hiL)
          have HY := hide hy
          clear hy
          go_wp2
          go_loopw [29, 33] (fun mm j wq => ∃ (d m : Nat), i' + 1 + d ≤ L1 ∧ j = .int .i64 ((i' + 1 + d : Nat) : Int) ∧ mm = .int .i64 (m : Nat) ∧ m = (pre pr ws κ i' d).length ∧ Below w5.heap.size w5 wq) (fun _ j _ => L1 - (intOf j).toNat)
          case atStart => exact ⟨0, m1, by omega, by go_num, rfl, HM1.out, hb7⟩
          case round =>
            clear hb7
            obtain ⟨d, m, hd, rfl, rfl, hm, hb8⟩ := hrel
            obtain ⟨j, hj⟩ : ∃ j, j = i' + 1 + d := ⟨_, rfl⟩
            rw [← hj] at hd ⊢
            have HJ := hide hj
            have HM2 := hide hm
            clear hm hj
            by_cases hjL : j < L1
            · have hj1 : decide ((j : Int) < (L1 : Int)) = true := decide_eq_true (by omega)
              obtain ⟨z, hz⟩ : ∃ z, z = (ws κ).getD j 0 := ⟨_, rfl⟩
              have hWw := HW5.out.below hb8
              have cy : wr.cell? ⟨G, i', none⟩ = some (.int .i64 y) := by rw [HY.out, HGG.out]; exact hWw.cell κ hκ4 i' (by rw [← HL1.out]; exact hiL)
              have cz : wr.cell? ⟨G, j, none⟩ = some (.int .i64 z) := by rw [hz, HGG.out]; exact hWw.cell κ hκ4 j (by rw [← HL1.out]; exact hjL)
              have hzn : z < n := by rw [hz]; exact HW5.out.val κ hκ4 j (by rw [← HL1.out]; exact hjL)
              have HZZ := hide hz
              clear hz hWw
              go_wp2_with fail
              go_quiet (fail)
              go_wp2_with fail
              refine (HZ.out _ (below_drewN hb8 _) y z hyn hzn).mono ?_
              rintro e w1 ⟨rfl, n1, rfl⟩
              by_cases hp1 : pr y z = true
              · rw [hp1]
                go_wp2
                go_roundw
                case rel => exact ⟨d + 1, m, by have := HJ.out; omega, by rw [HJ.out]; go_num, rfl, by rw [HM2.out, pre_d, ← HY.out, ← HJ.out, ← HZZ.out, pOne, hp1]; simp, below_drewN hb8 _⟩
                case measure => simp [intOf]; omega
              · have hp1' : pr y z = false := by simpa using hp1
                rw [hp1']
                go_wp2_with fail
                refine (HZ.out _ (below_drewN hb8 _) z y hzn hyn).mono ?_
                rintro e w1 ⟨rfl, n2, rfl⟩
                by_cases hp2 : pr z y = true
                · rw [hp2]
                  go_wp2
                  go_roundw
                  case rel => exact ⟨d + 1, m, by have := HJ.out; omega, by rw [HJ.out]; go_num, rfl, by rw [HM2.out, pre_d, ← HY.out, ← HJ.out, ← HZZ.out, pOne, hp2]; simp, below_drewN hb8 _⟩
                  case measure => simp [intOf]; omega
                · have hp2' : pr z y = false := by simpa using hp2
                  rw [hp2']
                  have hget : (pk pr ws 4)[m]? = some (κ, y, z) := by rw [HM2.out]; exact pre_get hκ4 (by rw [← HL1.out]; exact hiL) (by rw [← HL1.out, ← HJ.out]; exact hjL) HY.out.symm (by rw [← HJ.out]; exact HZZ.out.symm) hp1' hp2'
                  have hmM : m < M := by rw [HMM.out]; exact (List.getElem?_eq_some_iff.1 hget).1
                  have hm1 : decide ((M : Int) ≤ (m : Int)) = false := decide_eq_false (by omega)
                  obtain ⟨G', rfl, hc7⟩ := got_at HRow.out HMM.out hget (below_drewN hb8 (nq + n1 + n2))
                  have q0 : (wr.drewN (nq + n1 + n2)).cell? ⟨G', m * 7, none⟩ = some (.int .i64 5) := hc7 0 (by omega)
                  have q1 : (wr.drewN (nq + n1 + n2)).cell? ⟨G', m * 7 + 1, none⟩ = some (.int .i64 0) := hc7 1 (by omega)
                  have q2 : (wr.drewN (nq + n1 + n2)).cell? ⟨G', m * 7 + 2, none⟩ = some (.int .i64 κ) := hc7 2 (by omega)
                  have q3 : (wr.drewN (nq + n1 + n2)).cell? ⟨G', m * 7 + 3, none⟩ = some (.int .i64 0) := hc7 3 (by omega)
                  have q4 : (wr.drewN (nq + n1 + n2)).cell? ⟨G', m * 7 + 4, none⟩ = some (.int .i64 y) := hc7 4 (by omega)
                  have q5 : (wr.drewN (nq + n1 + n2)).cell? ⟨G', m * 7 + 5, none⟩ = some (.int .i64 z) := hc7 5 (by omega)
                  have q6 : (wr.drewN (nq + n1 + n2)).cell? ⟨G', m * 7 + 6, none⟩ = some (.int .i64 0) := hc7 6 (by omega)
                  clear hc7 hget cy cz
                  have hkk : ((κ : Int) == (κ : Int)) = true := by simp
                  go_wp2_with (refine wpList_store7 rfl (.tmp 36) (.tmp 306) rfl (wr.drewN (nq + n1 + n2)) rfl wr.heap.size κ y z rfl rfl rfl ?_; intro W' hbW g0 g1 g2 g3 g4 g5 g6)
                  refine ⟨⟨d + 1, m + 1, by have := HJ.out; omega, by rw [HJ.out]; go_num, by go_num, by rw [HM2.out, pre_d, ← HY.out, ← HJ.out, ← HZZ.out, pOne, hp1', hp2']; simp, (below_drewN hb8 _).trans (hbW.mono (below_drewN hb8 _).size)⟩, by simp [intOf]; omega⟩
            · obtain rfl : j = L1 := by omega
              have hj1 : decide ((j : Int) < (j : Int)) = false := decide_eq_false (by omega)
              go_wp2
              go_roundw
              case rel => exact ⟨i' + 1, m, by omega, by go_num, rfl, by rw [HM2.out, pre_i (d := d) (by rw [← HL1.out]; have := HJ.out; omega)], hb8⟩
              case measure => simp [intOf]; omega
        · obtain rfl : i' = L1 := by omega
          go_wp2
          go_roundw
          case rel => exact ⟨κ + 1, m1, by omega, by go_num, rfl, by rw [HM1.out, pre_k HL1.out.symm], hb7⟩
          case measure => simp [intOf]; omega
    · obtain rfl : κ = 4 := by omega
      obtain rfl : m0 = M := by rw [HM0.out, HMM.out]; simp [pre, pi, pj]
      go_wp2
      go_ret
      exact ⟨rfl, hbw.trans (hb6.mono hbw.size)⟩

end Go.Proofs.Ybulkcsym
