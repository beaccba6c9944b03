/-
  OUR OWN. 'LawS4722ABlocked' (function 3): its last loop: what cascade said.
-/
import Derived.Test.YbulkcstqArr
import Derived.BigRegion
import Derived.BigQuiet
namespace Go.Proofs.Ybulkcstq
open Go.RowKit Go.Maps Go.WideMaps Bfs

def seenL (L : List En) (r v : Nat) : Bool := decide ((r, v) ∈ L.map fun e => (e.2.1, e.1))
theorem seenL_snoc (L : List En) (e : En) (r v : Nat) : seenL (L ++ [e]) r v = if r = e.2.1 ∧ v = e.1 then true else seenL L r v := by
  unfold seenL
  by_cases h : r = e.2.1 ∧ v = e.1
  · simp [h]
  · rw [if_neg h]
    have : ¬ ((r, v) = (e.2.1, e.1)) := fun x => h (by simpa using x)
    simp only [List.map_append, List.map_cons, List.map_nil, List.mem_append, List.mem_singleton, this, or_false]
theorem seen_new {E : List En} (hn : (E.map fun e => (e.2.1, e.1)).Nodup) {k v r d : Nat} (h : E[k]? = some (v, r, d)) : seenL (E.take k) r v = false := by
  have hk : k < E.length := by
    by_cases hk : k < E.length
    · exact hk
    · rw [List.getElem?_eq_none (by omega)] at h; cases h
  have e : E = E.take k ++ (v, r, d) :: E.drop (k + 1) := by
    rw [List.getElem?_eq_getElem hk] at h
    rw [← Option.some.inj h, List.getElem_cons_drop, List.take_append_drop]
  rw [e, List.map_append, List.map_cons] at hn
  have := (List.nodup_append.1 hn).2.2
  unfold seenL
  refine decide_eq_false fun hm => ?_
  exact this _ hm _ (List.mem_cons_self) rfl
theorem eC_len (E : List En) : (E.flatMap eC).length = 4 * E.length := by
  induction E with
  | nil => rfl
  | cons e E ih => rw [List.flatMap_cons, List.length_append, ih]; simp [eC]; omega
theorem eC_get {E : List En} {k : Nat} {e : En} (h : E[k]? = some e) (j : Nat) (hj : j < 4) : (E.flatMap eC)[k * 4 + j]? = (eC e)[j]? := by
  induction E generalizing k with
  | nil => simp at h
  | cons x E ih =>
    rw [List.flatMap_cons]
    cases k with
    | zero =>
      simp at h
      subst h
      rw [List.getElem?_append_left (by simp [eC]; omega)]
      simp
    | succ k =>
      simp at h
      rw [List.getElem?_append_right (by simp [eC]; omega)]
      have : (k + 1) * 4 + j - (eC x).length = k * 4 + j := by simp [eC]; omega
      rw [this]
      exact ih h

set_option maxRecDepth 100000 in
set_option maxHeartbeats 4000000 in
theorem tail20 (w w5 : World) (K : Act → World → Prop) (hK : ∀ a wx, (restOf Yba.f3.body 20).wp Yba.prog (bodyPost Yba.prog Yba.f3 fun e w' => e = .returned (.bool true) ∧ Below w.heap.size w w') a wx → K a wx)
    {u0 u1 u2 u3 u4 u5 u6 u7 u8 u9 u10 u11 u12 u13 u14 u15 u16 u17 u18 u19 u20 u21 u22 u23 u24 u26 u27 u28 u29 u30 u31 u32 u33 u36 u37 u38 u39 u40 u41 u42 u43 u44 u46 u47 u48 u49 u50 u51 u52 u53 u54 u55 u56 u57 u58 u59 u60 u61 u62 u63 u64 u65 u66 u67 u68 u69 u70 u71 u72 u73 u74 u75 u76 u77 u78 u79 u80 u81 u82 u83 u84 u85 u86 u87 u88 u89 u90 u91 u92 u93 u94 u95 u96 u97 u98 u99 u100 u101 u102 u103 u104 u105 u106 u107 u108 u109 u110 u111 u112 u113 u114 u115 u116 u117 u118 u119 u120 u121 u122 u123 u124 u125 u126 u127 u128 u129 u130 u131 u132 u133 u134 u135 u136 u137 u138 u139 u140 u141 u142 u143 u144 u145 u146 u147 u148 u149 u150 u151 u152 u153 u154 u155 u156 u157 u158 u159 u160 u161 u162 u163 u164 u165 u166 u167 u168 u169 u170 u171 u172 u173 u174 u175 u176 u177 u178 u179 u180 u181 u182 u183 u184 u185 u186 u187 u188 u189 u190 u191 u192 u193 u194 u195 u196 u197 u198 u199 u200 u201 u202 u203 u204 u205 u206 u207 u208 u209 u210 u211 u212 u213 u214 u215 u216 u217 u218 u219 u220 u221 u222 u223 u224 u225 u226 u227 u228 u229 u230 u231 u232 u233 u234 u235 u236 u237 u238 u239 u240 u241 u242 u243 u244 u245 u246 u247 u248 u249 u250 u251 u252 u253 u254 u255 u256 u257 u258 u259 u260 u261 u262 u263 u264 u265 u266 u267 u268 u269 u270 u271 u272 u273 u274 u275 u276 u277 u278 u279 u280 u281 u282 u283 u284 u285 u286 u287 u288 u289 u290 u291 u292 u293 u294 u295 u296 u297 u298 u299 u300 u301 u302 u303 u304 u305 u306 u307 u308 u309 u310 u311 u312 u313 u314 u315 u316 u317 u318 u319 u320 u321 u322 u323 u324 u325 u326 u327 u328 u329 u330 u331 u332 u333 u334 u335 u336 u337 u338 u339 u340 u341 u342 u343 u344 u345 u346 u347 u348 u349 u350 u351 u352 u353 u354 u355 u356 u357 u358 u359 u360 u361 u362 u363 u364 u365 : Value}
    (ub db ng gc base : Nat) (ga : Option Addr) (U : Nat → Bool) (D : Nat → Nat → Int) (E : List En) (HU : Hid (Arr w5 ub 9 (boolF U))) (HD : Hid (Arr w5 db 81 (gridF fun r v => .int .i64 (D r v)))) (HR : Hid (w5.ownsRow base 64 4 (.slice ga ng gc) ng (E.flatMap eC))) (HNG : Hid (ng = E.length)) (hng : ng ≤ 100000)
    (HE : Hid (∀ e ∈ E, e.1 < 9 ∧ e.2.1 < 9 ∧ U e.2.1 = true ∧ D e.2.1 e.1 = (e.2.2 : Int) ∧ e.2.2 ≤ 100)) (HND : Hid ((E.map fun e => (e.2.1, e.1)).Nodup)) (hbw : Below w.heap.size w w5) :
    K { tmps := #[u0, u1, u2, u3, u4, u5, u6, u7, u8, u9, u10, u11, u12, u13, u14, u15, u16, u17, u18, u19, u20, u21, u22, u23, u24, .pointer (some ⟨ub, 0, none⟩), u26, u27, u28, u29, u30, u31, u32, u33, .pointer (some ⟨db, 0, none⟩), .int .i64 (ng : Int), u36, u37, u38, u39, u40, u41, u42, u43, u44, .slice ga ng gc, u46, u47, u48, u49, u50, u51, u52, u53, u54, u55, u56, u57, u58, u59, u60, u61, u62, u63, u64, u65, u66, u67, u68, u69, u70, u71, u72, u73, u74, u75, u76, u77, u78, u79, u80, u81, u82, u83, u84, u85, u86, u87, u88, u89, u90, u91, u92, u93, u94, u95, u96, u97, u98, u99, u100, u101, u102, u103, u104, u105, u106, u107, u108, u109, u110, u111, u112, u113, u114, u115, u116, u117, u118, u119, u120, u121, u122, u123, u124, u125, u126, u127, u128, u129, u130, u131, u132, u133, u134, u135, u136, u137, u138, u139, u140, u141, u142, u143, u144, u145, u146, u147, u148, u149, u150, u151, u152, u153, u154, u155, u156, u157, u158, u159, u160, u161, u162, u163, u164, u165, u166, u167, u168, u169, u170, u171, u172, u173, u174, u175, u176, u177, u178, u179, u180, u181, u182, u183, u184, u185, u186, u187, u188, u189, u190, u191, u192, u193, u194, u195, u196, u197, u198, u199, u200, u201, u202, u203, u204, u205, u206, u207, u208, u209, u210, u211, u212, u213, u214, u215, u216, u217, u218, u219, u220, u221, u222, u223, u224, u225, u226, u227, u228, u229, u230, u231, u232, u233, u234, u235, u236, u237, u238, u239, u240, u241, u242, u243, u244, u245, u246, u247, u248, u249, u250, u251, u252, u253, u254, u255, u256, u257, u258, u259, u260, u261, u262, u263, u264, u265, u266, u267, u268, u269, u270, u271, u272, u273, u274, u275, u276, u277, u278, u279, u280, u281, u282, u283, u284, u285, u286, u287, u288, u289, u290, u291, u292, u293, u294, u295, u296, u297, u298, u299, u300, u301, u302, u303, u304, u305, u306, u307, u308, u309, u310, u311, u312, u313, u314, u315, u316, u317, u318, u319, u320, u321, u322, u323, u324, u325, u326, u327, u328, u329, u330, u331, u332, u333, u334, u335, u336, u337, u338, u339, u340, u341, u342, u343, u344, u345, u346, u347, u348, u349, u350, u351, u352, u353, u354, u355, u356, u357, u358, u359, u360, u361, u362, u363, u364, u365], defers := [] } w5 := by
  refine hK _ _ ?_
  refine wp_seq_of (show restOf Yba.f3.body 20 = Code.seq _ _ from rfl) ?_
  have hbs := hbw.size
  have h56 := zero56
  have hz : Arr (w5.alloc (.cells zb81 56)) w5.heap.size 81 (gridF fun r v => .bool (seenL (E.take 0) r v)) := (Arr.zb81 w5 56).congr fun i _ => by simp [gridF, seenL]
  go_wp2
  have HZ := hide hz
  clear hz h56
  go_loopw [320] (fun iv wr => ∃ k : Nat, k ≤ ng ∧ iv = .int .i64 k ∧ Below w5.heap.size w5 wr ∧ Arr wr w5.heap.size 81 (gridF fun r v => .bool (seenL (E.take k) r v))) (fun iv _ => ng - (intOf iv).toNat)
  case atStart => exact ⟨0, Nat.zero_le _, rfl, (Below.refl _ _).alloc (Nat.le_refl _) _, HZ.out⟩
  case round =>
    clear HZ
    obtain ⟨k, hk, rfl, hbr, hA⟩ := hrel
    by_cases hkn : k < ng
    · have hg1 : decide ((k : Int) < (ng : Int)) = true := decide_eq_true (by omega)
      obtain ⟨g, c, hv, _, hgl⟩ := HR.out.form (by omega)
      simp only [Value.slice.injEq] at hv
      obtain ⟨rfl, _, rfl⟩ := hv
      have hkl : k < E.length := by rw [← HNG.out]; exact hkn
      obtain ⟨v, r, d, he⟩ : ∃ v r d, E[k]? = some (v, r, d) := ⟨E[k].1, E[k].2.1, E[k].2.2, List.getElem?_eq_getElem hkl⟩
      have hall : ∀ j, j < 4 → wr.cell? ⟨g, k * 4 + j, none⟩ = (eC (v, r, d))[j]? := fun j hj => ((hbr.cell (p := ⟨g, k * 4 + j, none⟩) hgl).trans (HR.out.cellAt (k * 4 + j) (by omega))).trans (eC_get he j hj)
      have x0 : wr.cell? ⟨g, k * 4, none⟩ = some (.string (idS v)) := hall 0 (by omega)
      have x1 : wr.cell? ⟨g, k * 4 + 1, none⟩ = some (.string (idS r)) := hall 1 (by omega)
      have x2 : wr.cell? ⟨g, k * 4 + 2, none⟩ = some (.int .i64 d) := hall 2 (by omega)
      have x3 : wr.cell? ⟨g, k * 4 + 3, none⟩ = some (.int .i64 (riskN d)) := hall 3 (by omega)
      obtain ⟨hv9, hr9, hU, hD, hd⟩ := HE.out (v, r, d) (List.mem_of_getElem? he)
      simp only at hv9 hr9 hU hD hd
      clear hall
      have HX := hide hbr
      have HA := hide hA
      have HEK := hide he
      have hO := Blk.made wr #[.string (idS v), .string (idS r), .int .i64 (d : Int), .int .i64 (riskN d)] 64
      obtain ⟨w6, hw6⟩ : ∃ w6, w6 = wr.alloc (.cells #[.string (idS v), .string (idS r), .int .i64 (d : Int), .int .i64 (riskN d)] 64) := ⟨_, rfl⟩
      rw [← hw6] at hO
      have HB6 : Hid (Below w5.heap.size w5 w6) := by rw [hw6]; exact hbr.alloc hbr.size _
      have HA6 : Hid (Arr w6 w5.heap.size 81 (gridF fun r v => .bool (seenL (E.take k) r v))) := by rw [hw6]; exact hA.alloc _
      have y0 : w6.cell? ⟨wr.heap.size, 0, none⟩ = some (.string (idS v)) := hO.cell rfl
      have y1 : w6.cell? ⟨wr.heap.size, 1, none⟩ = some (.string (idS r)) := hO.cell rfl
      have HO := hide hO
      clear hbr hA he hO
      go_upto_region 97 with fail
      rw [← hw6]
      clear hw6 x0 x1 x2 x3
      obtain ⟨eb, heb⟩ : ∃ eb, eb = wr.heap.size := ⟨_, rfl⟩
      rw [← heb] at y0 y1 ⊢
      have HEB := hide heb
      clear heb
      go_wp2_with fail
      refine (aidx r hr9 _).mono ?_
      rintro e w' ⟨rfl, rfl⟩
      go_wp2_with fail
      refine (aidx v hv9 _).mono ?_
      rintro e w' ⟨rfl, rfl⟩
      have hns : seenL (E.take k) r v = false := seen_new HND.out HEK.out
      have cu : w'.cell? ⟨ub, r, none⟩ = some (.bool true) := by
        rw [(HU.out.below HB6.out HU.out.lt).cell hr9, boolF, hU]
      have cs : w'.cell? ⟨w5.heap.size, r * 9 + v, none⟩ = some (.bool false) := by
        rw [HA6.out.cell (by omega), gridF_at _ hv9, hns]
      have cf := HA6.out.free (r * 9 + v)
      have t1 : decide ((r : Int) < 0) = false := decide_eq_false (by omega)
      have t2 : decide ((v : Int) < 0) = false := decide_eq_false (by omega)
      go_upto_region 104 with fail
      have HB7 : Hid (Below w5.heap.size w5 (w'.setCell ⟨w5.heap.size, r * 9 + v, none⟩ (.bool true))) := HB6.out.setCell (Nat.le_refl _) _
      have HA7 : Hid (Arr (w'.setCell ⟨w5.heap.size, r * 9 + v, none⟩ (.bool true)) w5.heap.size 81 (gridF fun r v => .bool (seenL (E.take (k + 1)) r v))) := by
        refine (HA6.out.set (r * 9 + v) (.bool true)).congr fun i _ => ?_
        have e1 := congrFun (gridF_set (fun r v => Value.bool (seenL (E.take k) r v)) (r := r) hv9 (.bool true)) i
        rw [e1]
        unfold gridF
        have e2 : E.take (k + 1) = E.take k ++ [(v, r, d)] := by
          have h := HEK.out
          rw [List.getElem?_eq_getElem hkl] at h
          rw [List.take_succ_eq_append_getElem hkl, Option.some.inj h]
        simp only [e2, seenL_snoc]
        split <;> rfl
      have z2 : (w'.setCell ⟨w5.heap.size, r * 9 + v, none⟩ (.bool true)).cell? ⟨eb, 2, none⟩ = some (.int .i64 (d : Int)) := by
        have h := (HO.out.other (a := ⟨w5.heap.size, r * 9 + v, none⟩) (by have := HA.out.lt; show wr.heap.size ≠ w5.heap.size; omega) (.bool true)).cell (i := 2) rfl
        rw [← HEB.out] at h; exact h
      have z3 : (w'.setCell ⟨w5.heap.size, r * 9 + v, none⟩ (.bool true)).cell? ⟨eb, 3, none⟩ = some (.int .i64 (riskN d)) := by
        have h := (HO.out.other (a := ⟨w5.heap.size, r * 9 + v, none⟩) (by have := HA.out.lt; show wr.heap.size ≠ w5.heap.size; omega) (.bool true)).cell (i := 3) rfl
        rw [← HEB.out] at h; exact h
      have cd : (w'.setCell ⟨w5.heap.size, r * 9 + v, none⟩ (.bool true)).cell? ⟨db, r * 9 + v, none⟩ = some (.int .i64 (d : Int)) := by
        rw [(HD.out.below HB7.out HD.out.lt).cell (by omega), gridF_at _ hv9, hD]
      generalize w'.setCell ⟨w5.heap.size, r * 9 + v, none⟩ (.bool true) = w7 at HB7 HA7 z2 z3 cd ⊢
      clear cs cf cu t1 t2 y0 y1 HA6 HB6 HO HA HX
      go_quiet (fail)
      clear cd
      have z2' : (w7.drewN nq).cell? ⟨eb, 2, none⟩ = some (.int .i64 (d : Int)) := z2
      have z3' : (w7.drewN nq).cell? ⟨eb, 3, none⟩ = some (.int .i64 (riskN d)) := z3
      have HB8 : Hid (Below w5.heap.size w5 (w7.drewN nq)) := Below.drewN' HB7.out nq
      have HA8 : Hid (Arr (w7.drewN nq) w5.heap.size 81 (gridF fun r v => .bool (seenL (E.take (k + 1)) r v))) := HA7.out
      clear z2 z3 HB7 HA7
      generalize w7.drewN nq = w8 at HB8 HA8 z2' z3' ⊢
      go_upto_region 106 with fail
      go_quiet ((go_at_call 9; exact Calls.quiet_of_same (arisk d hd _)))
      go_wp2
      go_roundw
      case rel => exact ⟨k + 1, by omega, by go_num, Below.drewN' HB8.out _, HA8.out⟩
      case measure => simp [intOf]; omega
    · obtain rfl : k = ng := by omega
      have hg1 : decide ((k : Int) < (k : Int)) = false := by simp
      clear hkn
      go_wp2_with fail
      go_ret
      exact ⟨rfl, hbw.trans (hbr.mono hbs)⟩
end Go.Proofs.Ybulkcstq
