/-
  OUR OWN. 'LawS4722ABlocked' (function 3): the law's own walks from the roots.
-/
import Derived.Test.YbulkcstqA20
import Derived.Test.YbulkcstqLs
namespace Go.Proofs.Ybulkcstq
open Go.RowKit Go.Maps Go.WideMaps Bfs

theorem cand_two {n : Nat} {inP : Nat → Bool} {dl dep : Nat → List Nat} {A : Nat → Nat → Bool} {cand : List Nat → List Nat} (h3 : ∀ u x, x ∈ dep u ↔ u < 9 ∧ x < n ∧ pIn n inP u = true ∧ u ∈ dl x) (hA : n ≤ 8 ∧ ∀ u v, v < n → (A u v = true ↔ pIn n inP u = true ∧ u ∈ dl v)) (hc : cand = candL n A) :
    ∀ l l' : List Nat, (∀ x, x ∈ l ↔ x ∈ l') → ∀ x, x ∈ (fun l : List Nat => l.flatMap dep) l ↔ x ∈ cand l' := by
  intro l l' h x
  subst hc
  show x ∈ l.flatMap dep ↔ x ∈ l'.flatMap _
  simp only [List.mem_flatMap, List.mem_filter, List.mem_range]
  constructor
  · rintro ⟨u, hu, hx⟩
    obtain ⟨_, q2, q3⟩ := (h3 u x).1 hx
    exact ⟨u, (h u).1 hu, q2, (hA.2 u x q2).2 q3⟩
  · rintro ⟨u, hu, q2, q3⟩
    have q4 := (hA.2 u x q2).1 q3
    have q5 : u < n := by have := q4.1; simp [pIn] at this; exact this.1
    exact ⟨u, (h u).2 hu, (h3 u x).2 ⟨by omega, q2, q4⟩⟩

set_option maxRecDepth 100000 in
set_option maxHeartbeats 4000000 in
theorem tail18 (w w3 : World) (K : Act → World → Prop) (hK : ∀ a wx, (restOf Yba.f3.body 18).wp Yba.prog (bodyPost Yba.prog Yba.f3 fun e w' => e = .returned (.bool true) ∧ Below w.heap.size w w') a wx → K a wx)
    {u1 u2 u3 u4 u5 u6 u7 u8 u10 u11 u12 u13 u14 u15 u18 u19 u20 u21 u22 u23 u26 u27 u28 u30 u31 u32 u33 u36 u37 u38 u39 u40 u41 u42 u43 u44 u45 u46 u47 u48 u49 u50 u51 u52 u53 u54 u55 u56 u57 u58 u59 u60 u61 u62 u63 u64 u65 u66 u67 u68 u69 u70 u71 u72 u73 u74 u75 u76 u77 u78 u79 u80 u81 u82 u83 u84 u85 u86 u87 u88 u89 u90 u91 u92 u93 u94 u95 u96 u97 u98 u99 u100 u101 u102 u103 u104 u105 u106 u107 u108 u109 u110 u111 u112 u113 u114 u115 u116 u117 u118 u119 u120 u121 u122 u123 u124 u125 u126 u127 u128 u129 u130 u131 u132 u133 u134 u135 u136 u137 u138 u139 u140 u141 u142 u143 u144 u145 u146 u147 u148 u149 u150 u151 u152 u153 u154 u155 u156 u157 u158 u159 u160 u161 u162 u163 u164 u165 u166 u167 u168 u169 u170 u171 u172 u173 u174 u175 u176 u177 u178 u179 u180 u181 u182 u183 u184 u185 u186 u187 u188 u189 u190 u191 u192 u193 u194 u195 u196 u197 u198 u199 u200 u201 u202 u203 u204 u205 u206 u207 u208 u209 u210 u211 u212 u213 u214 u215 u216 u217 u218 u219 u220 u221 u222 u223 u224 u225 u226 u227 u228 u229 u230 u231 u232 u233 u234 u235 u236 u237 u238 u239 u240 u241 u242 u243 u244 u245 u246 u247 u248 u249 u250 u251 u252 u253 u254 u255 u256 u257 u258 u259 u260 u261 u262 u263 u264 u265 u266 u267 u268 u269 u270 u271 u272 u273 u274 u275 u276 u277 u278 u279 u280 u281 u282 u283 u284 u285 u286 u287 u288 u289 u290 u291 u292 u293 u294 u295 u296 u297 u298 u299 u300 u301 u302 u303 u304 u305 u306 u307 u308 u309 u310 u311 u312 u313 u314 u315 u316 u317 u318 u319 u320 u321 u322 u323 u324 u325 u326 u327 u328 u329 u330 u331 u332 u333 u334 u335 u336 u337 u338 u339 u340 u341 u342 u343 u344 u345 u346 u347 u348 u349 u350 u351 u352 u353 u354 u355 u356 u357 u358 u359 u360 u361 u362 u363 u364 u365 : Value}
    (n nl nc nb no hb swb ub ab nr rc sb nw nt wc tc : Nat) (na ra wa ta : Option Addr) (WL : List (Nat × Bool)) (TL rts : List Nat) (inP co U : Nat → Bool) (A : Nat → Nat → Bool) (dv : Nat → Value) (dl : Nat → List Nat)
    (hna : 0 < n → na = some ⟨nb, no, none⟩) (hnl : n ≤ nl) (HCO : Hid (∀ i, i < n → w3.cell? ⟨nb, no + i * 3, none⟩ = some (.bool (co i))))
    (HH : Hid (Arr w3 hb 9 (boolF (heldS WL TL)))) (HU : Hid (Arr w3 ub 9 (boolF U))) (HAD : Hid (Arr w3 ab 81 (gridF fun u v => .bool (A u v))))
    (HSW : Hid (SwOk w3 swb sb nw nt wc tc wa ta WL TL)) (HSB : Hid (SubOk w3 sb n inP co dv dl)) (HRT : Hid (w3.ownsRow 0 9 1 (.slice ra nr rc) nr (rts.map sV))) (HR9 : Hid (∀ r ∈ rts, r < 9)) (hnr : nr ≤ 1024)
    (HUR : Hid (∀ r, r < 9 → (U r = true ↔ r ∈ rts))) (HAA : Hid (n ≤ 8 ∧ ∀ u v, v < n → (A u v = true ↔ pIn n inP u = true ∧ u ∈ dl v))) (hbw : Below w.heap.size w w3) :
    K { tmps := #[.slice na nl nc, u1, u2, u3, u4, u5, u6, u7, u8, .int .i64 (n : Int), u10, u11, u12, u13, u14, u15, .pointer (some ⟨hb, 0, none⟩), .pointer (some ⟨swb, 0, none⟩), u18, u19, u20, u21, u22, u23, .slice ra nr rc, .pointer (some ⟨ub, 0, none⟩), u26, u27, u28, .pointer (some ⟨ab, 0, none⟩), u30, u31, u32, u33, .pointer (some ⟨w3.heap.size, 0, none⟩), .int .i64 0, u36, u37, u38, u39, u40, u41, u42, u43, u44, u45, u46, u47, u48, u49, u50, u51, u52, u53, u54, u55, u56, u57, u58, u59, u60, u61, u62, u63, u64, u65, u66, u67, u68, u69, u70, u71, u72, u73, u74, u75, u76, u77, u78, u79, u80, u81, u82, u83, u84, u85, u86, u87, u88, u89, u90, u91, u92, u93, u94, u95, u96, u97, u98, u99, u100, u101, u102, u103, u104, u105, u106, u107, u108, u109, u110, u111, u112, u113, u114, u115, u116, u117, u118, u119, u120, u121, u122, u123, u124, u125, u126, u127, u128, u129, u130, u131, u132, u133, u134, u135, u136, u137, u138, u139, u140, u141, u142, u143, u144, u145, u146, u147, u148, u149, u150, u151, u152, u153, u154, u155, u156, u157, u158, u159, u160, u161, u162, u163, u164, u165, u166, u167, u168, u169, u170, u171, u172, u173, u174, u175, u176, u177, u178, u179, u180, u181, u182, u183, u184, u185, u186, u187, u188, u189, u190, u191, u192, u193, u194, u195, u196, u197, u198, u199, u200, u201, u202, u203, u204, u205, u206, u207, u208, u209, u210, u211, u212, u213, u214, u215, u216, u217, u218, u219, u220, u221, u222, u223, u224, u225, u226, u227, u228, u229, u230, u231, u232, u233, u234, u235, u236, u237, u238, u239, u240, u241, u242, u243, u244, u245, u246, u247, u248, u249, u250, u251, u252, u253, u254, u255, u256, u257, u258, u259, u260, u261, u262, u263, u264, u265, u266, u267, u268, u269, u270, u271, u272, u273, u274, u275, u276, u277, u278, u279, u280, u281, u282, u283, u284, u285, u286, u287, u288, u289, u290, u291, u292, u293, u294, u295, u296, u297, u298, u299, u300, u301, u302, u303, u304, u305, u306, u307, u308, u309, u310, u311, u312, u313, u314, u315, u316, u317, u318, u319, u320, u321, u322, u323, u324, u325, u326, u327, u328, u329, u330, u331, u332, u333, u334, u335, u336, u337, u338, u339, u340, u341, u342, u343, u344, u345, u346, u347, u348, u349, u350, u351, u352, u353, u354, u355, u356, u357, u358, u359, u360, u361, u362, u363, u364, u365], defers := [] } (w3.alloc (.cells zi81 58)) := by
  refine hK _ _ ?_
  refine wp_seq_of (show restOf Yba.f3.body 18 = Code.seq _ _ from rfl) ?_
  have hn8 : n ≤ 8 := HSB.out.n8
  obtain ⟨cand, hcand⟩ : ∃ cand : List Nat → List Nat, cand = candL n A := ⟨_, rfl⟩
  obtain ⟨stop, hstop⟩ : ∃ stop : Nat → Bool, stop = fun v => (decide (v < n) && co v) || heldS WL TL v := ⟨_, rfl⟩
  have hc9 : ∀ l x, x ∈ cand l → x < 9 := by
    intro l x hx
    rw [hcand] at hx
    obtain ⟨u, _, hx⟩ := List.mem_flatMap.1 hx
    have := List.mem_range.1 (List.mem_filter.1 hx).1
    omega
  have hc0 : cand [] = [] := by rw [hcand]; rfl
  have HC := hide hcand
  have HST := hide hstop
  have HC9 := hide hc9
  have HC0 := hide hc0
  have hz0 : Arr (w3.alloc (.cells zi81 58)) w3.heap.size 81 (dG (tabL cand stop U 0)) := (Arr.zi81 w3 58).congr fun i _ => by simp [gridF, tabL]
  have HZ0 := hide hz0
  have hbs := hbw.size
  clear hcand hstop hc9 hc0 hz0
  go_wp2
  go_loopw [35, 36] (fun wv rv wr => ∃ k : Nat, k ≤ 9 ∧ rv = .int .i64 k ∧ wv = .int .i64 ((wantS cand stop U k : Nat) : Int) ∧ Below w3.heap.size w3 wr ∧ Arr wr w3.heap.size 81 (dG (tabL cand stop U k))) (fun _ rv _ => 9 - (intOf rv).toNat)
  case atStart => exact ⟨0, Nat.zero_le _, rfl, rfl, (Below.refl _ _).alloc (Nat.le_refl _) _, HZ0.out⟩
  case round =>
    clear HZ0
    obtain ⟨k, hk, rfl, rfl, hbr, hA⟩ := hrel
    obtain ⟨W0, hW0⟩ : ∃ W0, W0 = wantS cand stop U k := ⟨_, rfl⟩
    have hW8 : W0 ≤ 810 := by rw [hW0]; have := wantS_le (stop := stop) (U := U) HC9.out k hk; omega
    rw [← hW0]
    have HW0 := hide hW0
    clear hW0
    by_cases hk9 : k < 9
    · have hg1 : decide ((k : Int) < 9) = true := decide_eq_true (by omega)
      go_wp2
      go_loopw [37] (fun jv wq => ∃ j : Nat, j ≤ 9 ∧ jv = .int .i64 j ∧ Below w3.heap.size w3 wq ∧ Arr wq w3.heap.size 81 (dG fun r v => if r = k ∧ v < j then -1 else tabL cand stop U k r v)) (fun jv _ => 9 - (intOf jv).toNat)
      case atStart => exact ⟨0, Nat.zero_le _, rfl, hbr, by simpa using hA⟩
      case round =>
        clear hbr hA
        obtain ⟨j, hj, rfl, hbr, hA⟩ := hrel
        by_cases hj9 : j < 9
        · have hg2 : decide ((j : Int) < 9) = true := decide_eq_true (by omega)
          have cd := hA.cell (i := k * 9 + j) (by omega)
          have cf := hA.free (k * 9 + j)
          have HA := hide hA
          have HB := hide hbr
          clear hA hbr
          go_wp2
          go_roundw
          case rel =>
            refine ⟨j + 1, by omega, by go_num, HB.out.setCell (Nat.le_refl _) _, ?_⟩
            have h2 := HA.out.set (k * 9 + j) (.int .i64 (-1))
            rw [gridF_set _ hj9] at h2
            refine h2.congr fun i _ => ?_
            show (if i / 9 = k ∧ i % 9 = j then Value.int IntKind.i64 (-1) else Value.int IntKind.i64 (if i / 9 = k ∧ i % 9 < j then -1 else tabL cand stop U k (i / 9) (i % 9))) = Value.int IntKind.i64 (if i / 9 = k ∧ i % 9 < j + 1 then -1 else tabL cand stop U k (i / 9) (i % 9))
            by_cases h1 : i / 9 = k
            · by_cases h3 : i % 9 = j
              · rw [if_pos ⟨h1, h3⟩, if_pos ⟨h1, by omega⟩]
              · rw [if_neg (fun h => h3 h.2)]
                by_cases h4 : i % 9 < j
                · rw [if_pos ⟨h1, h4⟩, if_pos ⟨h1, by omega⟩]
                · rw [if_neg (fun h => h4 h.2), if_neg (fun h => h4 (by omega))]
            · rw [if_neg (fun h => h1 h.1), if_neg (fun h => h1 h.1), if_neg (fun h => h1 h.1)]
          case measure => simp [intOf]; omega
        · obtain rfl : j = 9 := by omega
          have cu := (HU.out.below hbr HU.out.lt).cell hk9
          rw [boolF] at cu
          by_cases hU : U k = true
          · rw [hU] at cu
            have HUK := hide hU
            clear hU
            have h41 := zero41
            have hL0 : LS w3 _ wr.heap.size _ _ _ _ _ _ := LS.start (r := k) hk9 hbr hA
            have hz1 := (Arr.zb9 wr 41).cell hk9
            rw [boolF] at hz1
            have hzf := (Arr.zb9 wr 41).free k
            go_wp2
            have hS0 := hL0.same (tabK_zero cand stop U k)
            obtain ⟨reb, hreb⟩ : ∃ reb, reb = wr.heap.size := ⟨_, rfl⟩
            rw [← hreb] at hS0 ⊢
            clear hL0 hz1 hzf h41 hA hbr cu hreb
            go_loopw [35, 39, 40] (fun wv lv dv' wq => ∃ d : Nat, d ≤ 9 ∧ dv' = .int .i64 ((d + 1 : Nat) : Int) ∧ wv = .int .i64 ((W0 + (ent cand stop k d).length : Nat) : Int) ∧ LS w3 wq reb (tabK cand stop U k d) (st cand stop k d).1 lv (.slice none 0 0) (st cand stop k d).2 []) (fun _ _ dv' _ => 11 - (intOf dv').toNat)
            case atStart => exact ⟨0, by omega, rfl, rfl, hS0⟩
            case round =>
              clear hS0
              obtain ⟨d, hd, rfl, rfl, hS⟩ := hrel
              obtain ⟨lev, hlev⟩ : ∃ lev, lev = (st cand stop k d).2 := ⟨_, rfl⟩
              obtain ⟨R0, hR0⟩ : ∃ R0, R0 = (st cand stop k d).1 := ⟨_, rfl⟩
              obtain ⟨D2, hD2⟩ : ∃ D2, D2 = tabK cand stop U k d := ⟨_, rfl⟩
              obtain ⟨W1, hW1⟩ : ∃ W1, W1 = W0 + (ent cand stop k d).length := ⟨_, rfl⟩
              rw [← hlev, ← hR0, ← hD2] at hS
              rw [← hW1]
              obtain ⟨la, lc, hlv, _, _⟩ := ownsRow_slice hS.lev
              subst hlv
              obtain ⟨L, hL⟩ : ∃ L, L = lev.length := ⟨_, rfl⟩
              obtain ⟨dd, hdd⟩ : ∃ dd, dd = d + 1 := ⟨_, rfl⟩
              rw [← hdd]
              have hW1l : W1 ≤ 900 := by
                rw [hW1]
                have := ent_le (stop := stop) hk9 HC9.out d
                omega
              have hL9 : L ≤ 9 := by rw [hL, hlev]; exact nodup9 (st_nodup d) (st9 hk9 HC9.out d)
              rw [← hL] at hS ⊢
              have HLEV := hide hlev
              have HR0 := hide hR0
              have HD2 := hide hD2
              have HW1 := hide hW1
              have HL := hide hL
              have HDD := hide hdd
              have hdd10 : dd ≤ 10 := by omega
              have hg5 : decide (dd ≤ 10) = true := decide_eq_true hdd10
              have hg6 : decide ((dd : Int) ≤ 10) = true := decide_eq_true (by omega)
              by_cases hL0 : 0 < L
              · have hg2 : decide ((0 : Int) < (L : Int)) = true := decide_eq_true (by omega)
                have hg2b : decide (0 < L) = true := decide_eq_true hL0
                have hd8 : d ≤ 8 := by
                  refine st_bound (stop := stop) HC9.out HC0.out hk9 (d := d) ?_
                  rw [← hlev]
                  intro e
                  rw [e] at hL
                  simp at hL
                  omega
                clear hlev hR0 hD2 hW1 hL hdd
                go_wp2
                go_loopw [35, 41, 266] (fun wv nv iv wq => ∃ a : Nat, a ≤ L ∧ iv = .int .i64 a ∧ wv = .int .i64 ((W1 + (rr stop R0 (candL n A (lev.take a))).2.length : Nat) : Int) ∧ LS w3 wq reb (tabD D2 k (rr stop R0 (candL n A (lev.take a))).2 dd) (rr stop R0 (candL n A (lev.take a))).1 (.slice la L lc) nv lev (rr stop R0 (candL n A (lev.take a))).2) (fun _ _ iv _ => L - (intOf iv).toNat)
                case atStart =>
                  refine ⟨0, Nat.zero_le _, rfl, rfl, ?_⟩
                  show LS w3 _ reb (tabD D2 k [] dd) R0 _ _ lev []
                  rw [tabD_nil]
                  exact hS
                case round =>
                  clear hS
                  obtain ⟨a, ha, rfl, rfl, hS⟩ := hrel
                  by_cases haL : a < L
                  · have hg3 : decide ((a : Int) < (L : Int)) = true := decide_eq_true (by omega)
                    obtain ⟨u, hu⟩ : ∃ u, u = lev.getD a 0 := ⟨_, rfl⟩
                    have hal : a < lev.length := by rw [← HL.out]; exact haL
                    obtain ⟨lg, lcap, hv, _, hlgl⟩ := hS.lev.form (by omega)
                    simp only [Value.slice.injEq] at hv
                    obtain ⟨rfl, hLL, rfl⟩ := hv
                    clear hLL
                    have cu : wr.cell? ⟨lg, a, none⟩ = some (.int .i64 (u : Int)) := by
                      have h := hS.lev
                      rw [HL.out] at h
                      rw [h.cellAt a (by omega), List.getElem?_map, List.getElem?_eq_getElem hal, hu]
                      simp [List.getD, List.getElem?_eq_getElem hal]
                    have hu9 : u < 9 := by
                      refine st9 (stop := stop) hk9 HC9.out d u ?_
                      rw [← HLEV.out, hu, List.getD, List.getElem?_eq_getElem hal]
                      exact List.getElem_mem _
                    have hta : candL n A (lev.take (a + 1)) = candL n A (lev.take a) ++ (List.range n).filter (A u) := by
                      unfold candL
                      rw [List.take_succ_eq_append_getElem hal, List.flatMap_append, hu, List.getD, List.getElem?_eq_getElem hal]
                      simp
                    have HTA := hide hta
                    obtain ⟨c0, hc0⟩ : ∃ c0, c0 = candL n A (lev.take a) := ⟨_, rfl⟩
                    rw [← hc0] at hS ⊢
                    have HCC0 := hide hc0
                    have HS := hide hS
                    obtain ⟨W2, hW2⟩ : ∃ W2, W2 = W1 + (rr stop R0 c0).2.length := ⟨_, rfl⟩
                    rw [← hW2]
                    have HW2 := hide hW2
                    clear hu hS hc0 hta hW2
                    go_wp2
                    clear cu
                    go_loopw [35, 41, 44] (fun wv nv iv wq => ∃ b : Nat, b ≤ n ∧ iv = .int .i64 b ∧ wv = .int .i64 ((W1 + (rr stop R0 (c0 ++ (List.range b).filter (A u))).2.length : Nat) : Int) ∧ LS w3 wq reb (tabD D2 k (rr stop R0 (c0 ++ (List.range b).filter (A u))).2 dd) (rr stop R0 (c0 ++ (List.range b).filter (A u))).1 (.slice (some ⟨lg, 0, none⟩) L lc) nv lev (rr stop R0 (c0 ++ (List.range b).filter (A u))).2) (fun _ _ iv _ => n - (intOf iv).toNat)
                    case atStart => exact ⟨0, Nat.zero_le _, rfl, by rw [HW2.out]; simp, by simpa using HS.out⟩
                    case round =>
                      clear HS
                      obtain ⟨b, hb0, rfl, rfl, hS⟩ := hrel
                      by_cases hbn : b < n
                      · have hg4 : decide ((b : Int) < (n : Int)) = true := decide_eq_true (by omega)
                        have hb9 : b < 9 := by omega
                        obtain ⟨R, nx, hRn⟩ : ∃ R nx, (R, nx) = rr stop R0 (c0 ++ (List.range b).filter (A u)) := ⟨_, _, rfl⟩
                        have hnx9 : nx.length ≤ 9 := by
                          have h1 := rr_nodup stop R0 (c0 ++ (List.range b).filter (A u))
                          have h2 : ∀ x ∈ (rr stop R0 (c0 ++ (List.range b).filter (A u))).2, x < 9 := by
                            intro x hx
                            have h3 := rr_mem hx
                            rcases List.mem_append.1 h3 with h3 | h3
                            · rw [HCC0.out] at h3
                              refine HC9.out (lev.take a) x ?_
                              rw [HC.out]; exact h3
                            · have := List.mem_range.1 (List.mem_filter.1 h3).1
                              omega
                          rw [← hRn] at h1 h2
                          exact nodup9 h1 h2
                        have hfs := filter_range_succ (A u) b
                        have hrs := rr_snoc stop R0 (c0 ++ (List.range b).filter (A u)) b
                        rw [List.append_assoc] at hrs
                        rw [← hRn] at hS hrs ⊢
                        simp only at hS ⊢
                        obtain ⟨M, hM⟩ : ∃ M, M = W1 + nx.length := ⟨_, rfl⟩
                        rw [← hM]
                        have hM5 : M ≤ 1000 := by omega
                        have HM := hide hM
                        have HRS := hide hrs
                        have HFS := hide hfs
                        have HRN := hide hRn
                        have ca := (HAD.out.below hS.below HAD.out.lt).cell (i := u * 9 + b) (by omega)
                        rw [gridF_at _ hb9] at ca
                        have cr := hS.re.cell hb9
                        rw [boolF] at cr
                        have cf := hS.re.free b
                        clear hM hrs hfs hRn
                        by_cases hAub : A u b = true
                        · rw [hAub] at ca
                          by_cases hRb : R b = true
                          · rw [hRb] at cr
                            have HS := hide hS
                            clear hS
                            go_wp2
                            go_roundw
                            case rel =>
                              have e : rr stop R0 (c0 ++ (List.range (b + 1)).filter (A u)) = (R, nx) := by rw [HFS.out, if_pos hAub, HRS.out, step_pos hRb]
                              exact ⟨b + 1, by omega, by go_num, by rw [e, HM.out], by rw [e]; exact HS.out⟩
                            case measure => simp [intOf]; omega
                          · have hRb' : R b = false := by simpa using hRb
                            rw [hRb'] at cr
                            have hS1 := hS.reach b
                            have cco : (wr.setCell ⟨reb, b, none⟩ (.bool true)).cell? ⟨nb, no + b * 3, none⟩ = some (.bool (co b)) := (hS1.below.cell (p := ⟨nb, no + b * 3, none⟩) (lt_of_cell (HCO.out b hbn))).trans (HCO.out b hbn)
                            have chh := (HH.out.below hS1.below HH.out.lt).cell hb9
                            rw [boolF] at chh
                            have hstv : stop b = (co b || heldS WL TL b) := by rw [HST.out]; simp [hbn]
                            have HSTV := hide hstv
                            have HS1 := hide hS1
                            have hna' := hna (by omega)
                            subst hna'
                            clear hS hS1 hstv
                            go_upto_region 84 with fail
                            generalize wr.setCell ⟨reb, b, none⟩ (.bool true) = w1 at cco chh HS1 ⊢
                            clear ca cr cf
                            by_cases hco : co b = true
                            · rw [hco] at cco
                              go_wp2
                              go_roundw
                              case rel =>
                                have e : rr stop R0 (c0 ++ (List.range (b + 1)).filter (A u)) = (fun x => x == b || R x, nx) := by rw [HFS.out, if_pos hAub, HRS.out, step_neg hRb', HSTV.out, hco]; rfl
                                exact ⟨b + 1, by omega, by go_num, by rw [e, HM.out], by rw [e]; exact HS1.out⟩
                              case measure => simp [intOf]; omega
                            · have hco' : co b = false := by simpa using hco
                              rw [hco'] at cco
                              by_cases hH : heldS WL TL b = true
                              · rw [hH] at chh
                                go_wp2
                                go_roundw
                                case rel =>
                                  have e : rr stop R0 (c0 ++ (List.range (b + 1)).filter (A u)) = (fun x => x == b || R x, nx) := by rw [HFS.out, if_pos hAub, HRS.out, step_neg hRb', HSTV.out, hH, Bool.or_true]; rfl
                                  exact ⟨b + 1, by omega, by go_num, by rw [e, HM.out], by rw [e]; exact HS1.out⟩
                                case measure => simp [intOf]; omega
                              · have hH' : heldS WL TL b = false := by simpa using hH
                                rw [hH'] at chh
                                have cd := HS1.out.dist.cell (i := k * 9 + b) (by omega)
                                have cdf := HS1.out.dist.free (k * 9 + b)
                                have hS2 := HS1.out.put k hb9 (dd : Int)
                                obtain ⟨i0, hi0, hz0, hz1, hz2⟩ := info_parts info3
                                obtain ⟨nxl, hnxl⟩ : ∃ nxl, nxl = nx.length := ⟨_, rfl⟩
                                have hnxl9 : nxl ≤ 9 := by omega
                                have HS2 := hide hS2
                                have HNX := hide hnxl
                                clear hS2 hnxl
                                go_upto_region 86 with fail
                                generalize w1.setCell ⟨w3.heap.size, k * 9 + b, none⟩ (.int .i64 (dd : Int)) = w2 at HS2 ⊢
                                clear cd cdf cco chh HS1
                                have HO2 : Hid ((w2.alloc (.cells #[iV b] 3)).ownsRow (reb + 1) 3 1 u41 nxl (nx.map iV)) := by rw [HNX.out]; exact (HS2.out.alloc _).nxt
                                have HNW2 := hide (World.news_of_block (Blk.made w2 #[iV b] 3))
                                have H12 : Hid (∀ x ∈ [iV b], x.oneCell' = true) := by intro x hx; simp at hx; subst hx; rfl
                                have hs4 := HS2.out.re.lt
                                go_wp2_with (at_builtin; refine wpList_append_lies _ rfl (.tmp 305) (.tmp 307) 59 rfl (reb + 1) 3 i0 (.int .i64 0) 1 8 Yba.underlying59 hi0 hz0 hz1 hz2 rfl (by decide) _ nxl _ rfl HO2.out ⟨w2.heap.size, 0, none⟩ 1 1 _ rfl rfl HNW2.out H12.out (by omega) (by unfold maxLen; omega) (by omega) (by simp; omega) _ rfl ?_; intro g5 cap5 w5 hown5 hgrow5 hat5 hlt5)
                                have e : rr stop R0 (c0 ++ (List.range (b + 1)).filter (A u)) = (fun x => x == b || R x, nx ++ [b]) := by rw [HFS.out, if_pos hAub, HRS.out, step_neg hRb', HSTV.out, hH', hco']; rfl
                                have hS5 := HS2.out.push (x := b) (by rw [← HNX.out]; exact hown5) hgrow5 hat5 (Nat.le_refl _)
                                refine ⟨⟨.int .i64 ((M + 1 : Nat) : Int), .slice (some ⟨g5, 0, none⟩) (nxl + 1) cap5, .int .i64 ((b + 1 : Nat) : Int), ⟨b + 1, by omega, rfl, ?_, ?_⟩, by go_num, rfl, by go_num⟩, by simp [intOf]; omega⟩
                                · rw [e, HM.out, List.length_append]; congr 1
                                · rw [e]
                                  have e2 := HNX.out
                                  subst e2
                                  exact hS5.same fun r v _ => (tabD_snoc D2 k nx dd b r v).symm
                        · have hAub' : A u b = false := by simpa using hAub
                          rw [hAub'] at ca
                          have HS := hide hS
                          clear hS
                          go_wp2
                          go_roundw
                          case rel =>
                            have e : rr stop R0 (c0 ++ (List.range (b + 1)).filter (A u)) = (R, nx) := by rw [HFS.out, if_neg hAub, ← HRN.out]
                            exact ⟨b + 1, by omega, by go_num, by rw [e, HM.out], by rw [e]; exact HS.out⟩
                          case measure => simp [intOf]; omega
                      · obtain rfl : b = n := by omega
                        have hg4 : decide ((b : Int) < (b : Int)) = false := by simp
                        have HS := hide hS
                        have he : rr stop R0 (c0 ++ (List.range b).filter (A u)) = rr stop R0 (candL b A (lev.take (a + 1))) := by rw [HTA.out, HCC0.out]
                        rw [he] at hS ⊢
                        go_wp2
                        go_roundw
                        case rel => exact ⟨a + 1, by omega, by go_num, rfl, hS⟩
                        case measure => simp [intOf]; omega
                  · obtain rfl : a = L := by omega
                    have hg3 : decide ((a : Int) < (a : Int)) = false := by simp
                    have e : rr stop R0 (candL n A (lev.take a)) = st cand stop k (d + 1) := by
                      rw [HL.out, List.take_length, st, rr, HR0.out, HLEV.out, HC.out]
                    rw [e] at hS ⊢
                    have HE := hide e
                    clear e
                    go_wp2
                    go_roundw
                    case rel =>
                      refine ⟨d + 1, by omega, by rw [HDD.out]; go_num, by rw [ent, List.length_append, List.length_map, HW1.out]; congr 2; omega, ?_⟩
                      refine hS.turn.same fun r v _ => ?_
                      rw [HD2.out, HDD.out]
                      exact tabK_succ cand stop U k d r v
                    case measure => simp [intOf]; have := HDD.out; omega
              · have hg2 : decide ((0 : Int) < (L : Int)) = false := decide_eq_false (by omega)
                obtain rfl : L = 0 := by omega
                clear hlev hR0 hD2 hW1 hL hdd
                go_wp2
                go_roundw
                case rel =>
                  have h0 : (st cand stop k d).2 = [] := by
                    have h1 := HL.out
                    rw [HLEV.out] at h1
                    exact List.length_eq_zero_iff.1 h1.symm
                  have he : ent cand stop k 10 = ent cand stop k d := by
                    have := (ent_stop HC0.out h0 (10 - d)).1
                    rwa [show d + (10 - d) = 10 by omega] at this
                  have hg := hS.dist
                  rw [HD2.out] at hg
                  exact ⟨k + 1, by omega, by go_num, by rw [wantS, if_pos HUK.out, he, HW1.out, HW0.out], hS.below, dG_congr hg fun r v _ => tabK_last HUK.out HC0.out (by omega) h0 r v⟩
                case measure => simp [intOf]; omega
          · have hU' : U k = false := by simpa using hU
            rw [hU'] at cu
            clear hU
            go_wp2
            go_roundw
            case rel =>
              exact ⟨k + 1, by omega, by go_num, by rw [HW0.out, wantS, hU']; simp, hbr, dG_congr hA fun r v hv => tabL_unused hU' hv⟩
            case measure => simp [intOf]; omega
    · obtain rfl : k = 9 := by omega
      have HB := hide hbr
      have HA := hide hA
      clear hbr hA hk9
      go_upto_region 90 with fail
      go_cut [45] (fun v wz => ∃ ev E dep, v = ev ∧ wz.ownsRow wr.heap.size 64 4 ev E.length (E.flatMap eC) ∧ Below wr.heap.size wr wz ∧
        (∀ u x, x ∈ dep u ↔ u < 9 ∧ x < n ∧ pIn n inP u = true ∧ u ∈ dl x) ∧ E = (rootsE (fun l => l.flatMap dep) (fun v => (decide (v < n) && co v) || heldS WL TL v) rts).2)
      case first =>
        go_wp2_with fail
        refine (cascade_walk swb sb nw nt wc tc n nr rc wa ta ra WL TL rts inP co dv dl wr ((HSW.out.below HB.out)) ?_ (HRT.out.kept (below_grown HB.out) (own_or _)) HR9.out hnr).mono ?_
        · have h := HSB.out
          exact ⟨h.map.below HB.out h.map.lt, fun i hi => (h.rows i hi).kept (below_grown HB.out) (own_or _), h.small, h.len, h.n8⟩
        · rintro e w1 ⟨ev, E, dep, rfl, h1, h2, h3, h4⟩
          go_wp2_with fail
          go_meet
          case rel => exact ⟨ev, E, dep, rfl, h1, h2, h3, h4⟩
      case rest =>
      obtain ⟨ev, E, dep, rfl, h1, h2, h3, h4⟩ := hcut
      obtain ⟨ga, gc, rfl, _, _⟩ := ownsRow_slice h1
      obtain ⟨hlen, hent, hnd⟩ := roots_table (cB := cand) (stop := stop) (U := U) (E := E) (cand_two h3 HAA.out HC.out) HC9.out HR9.out HUR.out (by rw [HST.out]; exact h4)
      have hWE : E.length = W0 := by rw [hlen, HW0.out]
      rw [hWE] at h1 ⊢
      have hb2 := h2.mono (show w3.heap.size ≤ wr.heap.size from HB.out.size)
      exact tail20 w wc _ (by assumption) ub w3.heap.size W0 gc wr.heap.size ga U (tabL cand stop U 9) E ((HU.out.below HB.out HU.out.lt).below hb2 HU.out.lt) (HA.out.below h2 HA.out.lt) h1 hWE.symm (by omega)
        (fun e he => by
          obtain ⟨q1, q2, q3, q4, q5⟩ := hent e he
          refine ⟨q1, q2, q3, ?_, q5⟩
          rw [tabL, if_pos q2, if_pos q3, q4]) hnd ((hbw.trans (HB.out.mono hbs)).trans (hb2.mono hbs))
end Go.Proofs.Ybulkcstq
