/-
  OUR OWN. 'LawS4722ABlocked' (function 3): the law's arrows.
-/
import Derived.Test.YbulkcstqA18
import Derived.Test.YbulkcstqNod
namespace Go.Proofs.Ybulkcstq
open Go.RowKit Go.Maps Go.WideMaps Bfs

set_option maxRecDepth 100000 in
set_option maxHeartbeats 4000000 in
theorem tail15 (w w2 : World) (K : Act → World → Prop) (hK : ∀ a wx, (restOf Yba.f3.body 15).wp Yba.prog (bodyPost Yba.prog Yba.f3 fun e w' => e = .returned (.bool true) ∧ Below w.heap.size w w') a wx → K a wx)
    {u1 u2 u3 u4 u5 u6 u7 u8 u10 u11 u12 u13 u14 u15 u18 u19 u20 u21 u22 u23 u26 u27 u28 u30 u31 u32 u33 u34 u35 u36 u37 u38 u39 u40 u41 u42 u43 u44 u45 u46 u47 u48 u49 u50 u51 u52 u53 u54 u55 u56 u57 u58 u59 u60 u61 u62 u63 u64 u65 u66 u67 u68 u69 u70 u71 u72 u73 u74 u75 u76 u77 u78 u79 u80 u81 u82 u83 u84 u85 u86 u87 u88 u89 u90 u91 u92 u93 u94 u95 u96 u97 u98 u99 u100 u101 u102 u103 u104 u105 u106 u107 u108 u109 u110 u111 u112 u113 u114 u115 u116 u117 u118 u119 u120 u121 u122 u123 u124 u125 u126 u127 u128 u129 u130 u131 u132 u133 u134 u135 u136 u137 u138 u139 u140 u141 u142 u143 u144 u145 u146 u147 u148 u149 u150 u151 u152 u153 u154 u155 u156 u157 u158 u159 u160 u161 u162 u163 u164 u165 u166 u167 u168 u169 u170 u171 u172 u173 u174 u175 u176 u177 u178 u179 u180 u181 u182 u183 u184 u185 u186 u187 u188 u189 u190 u191 u192 u193 u194 u195 u196 u197 u198 u199 u200 u201 u202 u203 u204 u205 u206 u207 u208 u209 u210 u211 u212 u213 u214 u215 u216 u217 u218 u219 u220 u221 u222 u223 u224 u225 u226 u227 u228 u229 u230 u231 u232 u233 u234 u235 u236 u237 u238 u239 u240 u241 u242 u243 u244 u245 u246 u247 u248 u249 u250 u251 u252 u253 u254 u255 u256 u257 u258 u259 u260 u261 u262 u263 u264 u265 u266 u267 u268 u269 u270 u271 u272 u273 u274 u275 u276 u277 u278 u279 u280 u281 u282 u283 u284 u285 u286 u287 u288 u289 u290 u291 u292 u293 u294 u295 u296 u297 u298 u299 u300 u301 u302 u303 u304 u305 u306 u307 u308 u309 u310 u311 u312 u313 u314 u315 u316 u317 u318 u319 u320 u321 u322 u323 u324 u325 u326 u327 u328 u329 u330 u331 u332 u333 u334 u335 u336 u337 u338 u339 u340 u341 u342 u343 u344 u345 u346 u347 u348 u349 u350 u351 u352 u353 u354 u355 u356 u357 u358 u359 u360 u361 u362 u363 u364 u365 : Value}
    (n nl nc nb no hb swb ub nr rc sb nw nt wc tc : Nat) (na ra wa ta : Option Addr) (WL : List (Nat × Bool)) (TL rts : List Nat) (inP co U : Nat → Bool) (dv : Nat → Value) (da : Nat → Option Addr) (dn dc bk off : Nat → Nat) (ds : Nat → Nat → Nat)
    (hna : 0 < n → na = some ⟨nb, no, none⟩) (hnl : n ≤ nl) (HN : Hid (Nodes w2 n nb no inP co da dn dc bk off ds)) (HDN : Hid (∀ i, i < n → dn i ≤ 1024))
    (HH : Hid (Arr w2 hb 9 (boolF (heldS WL TL)))) (HU : Hid (Arr w2 ub 9 (boolF U)))
    (HSW : Hid (SwOk w2 swb sb nw nt wc tc wa ta WL TL)) (HSB : Hid (SubOk w2 sb n inP co dv (depL dn ds))) (HRT : Hid (w2.ownsRow 0 9 1 (.slice ra nr rc) nr (rts.map sV))) (HR9 : Hid (∀ r ∈ rts, r < 9)) (hnr : nr ≤ 1024)
    (HUR : Hid (∀ r, r < 9 → (U r = true ↔ r ∈ rts))) (hbw : Below w.heap.size w w2) :
    K { tmps := #[.slice na nl nc, u1, u2, u3, u4, u5, u6, u7, u8, .int .i64 (n : Int), u10, u11, u12, u13, u14, u15, .pointer (some ⟨hb, 0, none⟩), .pointer (some ⟨swb, 0, none⟩), u18, u19, u20, u21, u22, u23, .slice ra nr rc, .pointer (some ⟨ub, 0, none⟩), u26, u27, u28, .pointer (some ⟨w2.heap.size, 0, none⟩), u30, u31, u32, u33, u34, u35, u36, u37, u38, u39, u40, u41, u42, u43, u44, u45, u46, u47, u48, u49, u50, u51, u52, u53, u54, u55, u56, u57, u58, u59, u60, u61, u62, u63, u64, u65, u66, u67, u68, u69, u70, u71, u72, u73, u74, u75, u76, u77, u78, u79, u80, u81, u82, u83, u84, u85, u86, u87, u88, u89, u90, u91, u92, u93, u94, u95, u96, u97, u98, u99, u100, u101, u102, u103, u104, u105, u106, u107, u108, u109, u110, u111, u112, u113, u114, u115, u116, u117, u118, u119, u120, u121, u122, u123, u124, u125, u126, u127, u128, u129, u130, u131, u132, u133, u134, u135, u136, u137, u138, u139, u140, u141, u142, u143, u144, u145, u146, u147, u148, u149, u150, u151, u152, u153, u154, u155, u156, u157, u158, u159, u160, u161, u162, u163, u164, u165, u166, u167, u168, u169, u170, u171, u172, u173, u174, u175, u176, u177, u178, u179, u180, u181, u182, u183, u184, u185, u186, u187, u188, u189, u190, u191, u192, u193, u194, u195, u196, u197, u198, u199, u200, u201, u202, u203, u204, u205, u206, u207, u208, u209, u210, u211, u212, u213, u214, u215, u216, u217, u218, u219, u220, u221, u222, u223, u224, u225, u226, u227, u228, u229, u230, u231, u232, u233, u234, u235, u236, u237, u238, u239, u240, u241, u242, u243, u244, u245, u246, u247, u248, u249, u250, u251, u252, u253, u254, u255, u256, u257, u258, u259, u260, u261, u262, u263, u264, u265, u266, u267, u268, u269, u270, u271, u272, u273, u274, u275, u276, u277, u278, u279, u280, u281, u282, u283, u284, u285, u286, u287, u288, u289, u290, u291, u292, u293, u294, u295, u296, u297, u298, u299, u300, u301, u302, u303, u304, u305, u306, u307, u308, u309, u310, u311, u312, u313, u314, u315, u316, u317, u318, u319, u320, u321, u322, u323, u324, u325, u326, u327, u328, u329, u330, u331, u332, u333, u334, u335, u336, u337, u338, u339, u340, u341, u342, u343, u344, u345, u346, u347, u348, u349, u350, u351, u352, u353, u354, u355, u356, u357, u358, u359, u360, u361, u362, u363, u364, u365], defers := [] } (w2.alloc (.cells zb81 56)) := by
  refine hK _ _ ?_
  refine wp_seq_of (show restOf Yba.f3.body 15 = Code.seq _ _ from rfl) ?_
  have hn8 : n ≤ 8 := HSB.out.n8
  obtain ⟨dl, hdl⟩ : ∃ dl, dl = depL dn ds := ⟨_, rfl⟩
  rw [← hdl] at HSB
  have HDL := hide hdl
  have hz0 : Arr (w2.alloc (.cells zb81 56)) w2.heap.size 81 (gridF fun u v => .bool (arrP n inP dl 0 0 u v)) := (Arr.zb81 w2 56).congr fun i _ => by simp [gridF, arrP_zero]
  have HZ0 := hide hz0
  have hbs := hbw.size
  clear hdl hz0
  go_wp2
  go_loopw [30] (fun mv wr => ∃ m : Nat, m ≤ n ∧ mv = .int .i64 m ∧ Below w2.heap.size w2 wr ∧ Arr wr w2.heap.size 81 (gridF fun u v => .bool (arrP n inP dl m 0 u v))) (fun mv _ => n - (intOf mv).toNat)
  case atStart => exact ⟨0, Nat.zero_le _, rfl, (Below.refl _ _).alloc (Nat.le_refl _) _, HZ0.out⟩
  case round =>
    clear HZ0
    obtain ⟨m, hm, rfl, hbr, hA⟩ := hrel
    by_cases hmn : m < n
    · have hg1 : decide ((m : Int) < (n : Int)) = true := decide_eq_true (by omega)
      have hm9 : m < 9 := by omega
      have HNR := hide (HN.out.below hbr)
      have c2 := HNR.out.c2 m hmn
      obtain ⟨P, hP⟩ : ∃ P, P = dn m := ⟨_, rfl⟩
      obtain ⟨pa, hpa⟩ : ∃ pa, pa = da m := ⟨_, rfl⟩
      obtain ⟨pc, hpc⟩ : ∃ pc, pc = dc m := ⟨_, rfl⟩
      rw [← hP, ← hpa, ← hpc] at c2
      have hP1 : P ≤ 1024 := by rw [hP]; exact HDN.out m hmn
      have HP := hide hP
      have HPA := hide hpa
      have hna' := hna (by omega)
      subst hna'
      have HB := hide hbr
      have HA := hide hA
      clear hP hpa hpc hbr hA
      go_wp2
      clear c2
      go_loopw [213] (fun jv wq => ∃ j : Nat, j ≤ P ∧ jv = .int .i64 j ∧ Below w2.heap.size w2 wq ∧ Arr wq w2.heap.size 81 (gridF fun u v => .bool (arrP n inP dl m j u v))) (fun jv _ => P - (intOf jv).toNat)
      case atStart => exact ⟨0, Nat.zero_le _, rfl, HB.out, HA.out⟩
      case round =>
        clear HB HA HNR
        obtain ⟨j, hj, rfl, hbr, hA⟩ := hrel
        by_cases hjP : j < P
        · have hg2 : decide ((j : Int) < (P : Int)) = true := decide_eq_true (by omega)
          have HNR := hide (HN.out.below hbr)
          obtain ⟨d, hd⟩ : ∃ d, d = ds m j := ⟨_, rfl⟩
          obtain ⟨pb, hpb⟩ : ∃ pb, pb = bk m := ⟨_, rfl⟩
          obtain ⟨po, hpo⟩ : ∃ po, po = off m := ⟨_, rfl⟩
          have cd := HNR.out.cd m hmn j (by rw [← HP.out]; exact hjP)
          have hpe := HNR.out.ad m hmn (by rw [← HP.out]; omega)
          have hd255 : d ≤ 255 := by rw [hd]; exact HNR.out.le m hmn j (by rw [← HP.out]; exact hjP)
          rw [← hd, ← hpb, ← hpo] at cd
          rw [← HPA.out, ← hpb, ← hpo] at hpe
          have HD := hide hd
          subst hpe
          clear hd hpb hpo
          go_upto_region 56 with fail
          obtain ⟨q, hq⟩ : ∃ q, q = d % 9 := ⟨_, rfl⟩
          have hq9 : q < 9 := by omega
          have hqi : ((d : Int) % 9) = (q : Int) := by omega
          have hqd : (dl m)[j]? = some q := by
            rw [HDL.out, depL, List.getElem?_map, List.getElem?_range (by rw [← HP.out]; exact hjP), hq, HD.out]
            rfl
          have HQD := hide hqd
          rw [hqi]
          clear hq hqi hqd cd
          have cf := hA.free (q * 9 + m)
          have ca := hA.cell (i := q * 9 + m) (by omega)
          rw [gridF_at _ hm9] at ca
          have HB := hide hbr
          have HA := hide hA
          clear hbr hA
          by_cases hqn : q < n
          · have hg3 : decide ((q : Int) < (n : Int)) = true := decide_eq_true (by omega)
            have c1 := HNR.out.c1 q hqn
            by_cases hin : inP q = true
            · rw [hin] at c1
              go_wp2
              go_roundw
              case rel =>
                refine ⟨j + 1, by omega, by go_num, HB.out.setCell (Nat.le_refl _) _, ?_⟩
                have h2 := HA.out.set (q * 9 + m) (.bool true)
                rw [gridF_set _ hm9] at h2
                refine h2.congr fun i _ => ?_
                show (if i / 9 = q ∧ i % 9 = m then Value.bool true else Value.bool (arrP n inP dl m j (i / 9) (i % 9))) = Value.bool (arrP n inP dl m (j + 1) (i / 9) (i % 9))
                rw [arrP_step HQD.out]
                have hp : pIn n inP q = true := by simp [pIn, hqn, hin]
                by_cases h : i / 9 = q ∧ i % 9 = m
                · rw [if_pos h, if_pos ⟨h.1, h.2, hp⟩]
                · rw [if_neg h, if_neg (fun h3 => h ⟨h3.1, h3.2.1⟩)]
              case measure => simp [intOf]; omega
            · have hin' : inP q = false := by simpa using hin
              rw [hin'] at c1
              go_wp2
              go_roundw
              case rel =>
                refine ⟨j + 1, by omega, by go_num, HB.out, HA.out.congr fun i _ => ?_⟩
                show Value.bool (arrP n inP dl m j (i / 9) (i % 9)) = Value.bool (arrP n inP dl m (j + 1) (i / 9) (i % 9))
                rw [arrP_step HQD.out, if_neg (fun h => by have := h.2.2; simp [pIn, hin'] at this)]
              case measure => simp [intOf]; omega
          · have hg3 : decide ((q : Int) < (n : Int)) = false := decide_eq_false (by omega)
            go_wp2
            go_roundw
            case rel =>
              refine ⟨j + 1, by omega, by go_num, HB.out, HA.out.congr fun i _ => ?_⟩
              show Value.bool (arrP n inP dl m j (i / 9) (i % 9)) = Value.bool (arrP n inP dl m (j + 1) (i / 9) (i % 9))
              rw [arrP_step HQD.out, if_neg (fun h => by have := h.2.2; simp [pIn, hqn] at this)]
            case measure => simp [intOf]; omega
        · obtain rfl : j = P := by omega
          have hg2 : decide ((j : Int) < (j : Int)) = false := by simp
          go_wp2
          go_roundw
          case rel =>
            refine ⟨m + 1, by omega, by go_num, hbr, hA.congr fun i _ => ?_⟩
            have e : j = (dl m).length := by rw [HDL.out, depL_len, HP.out]
            show Value.bool (arrP n inP dl m j (i / 9) (i % 9)) = Value.bool (arrP n inP dl (m + 1) 0 (i / 9) (i % 9))
            rw [e, arrP_row]
          case measure => simp [intOf]; omega
    · obtain rfl : m = n := by omega
      have hg1 : decide ((m : Int) < (m : Int)) = false := by simp
      have HB := hide hbr
      have HA := hide hA
      clear hbr hA
      have h58 := zero58
      go_upto_region 60 with fail
      go_cut [35] (fun v wz => v = .int .i64 0 ∧ wz = wr.alloc (.cells zi81 58))
      case first =>
        go_wp2_with fail
        go_meet
        case rel => exact ⟨rfl, rfl⟩
      case rest =>
      obtain ⟨rfl, rfl⟩ := hcut
      exact tail18 w wr _ (by assumption) m nl nc nb no hb swb ub w2.heap.size nr rc sb nw nt wc tc na ra wa ta WL TL rts inP co U (arr m inP dl) dv dl hna hnl (HN.out.below HB.out).c0 (HH.out.below HB.out HH.out.lt) (HU.out.below HB.out HU.out.lt)
        (HA.out.congr fun i _ => by show Value.bool (arrP m inP dl m 0 (i / 9) (i % 9)) = Value.bool (arr m inP dl (i / 9) (i % 9)); rw [arrP_last])
        (HSW.out.below HB.out) ⟨HSB.out.map.below HB.out HSB.out.map.lt, fun i hi => (HSB.out.rows i hi).kept (below_grown HB.out) (own_or _), HSB.out.small, HSB.out.len, HSB.out.n8⟩ (HRT.out.kept (below_grown HB.out) (own_or _)) HR9.out hnr HUR.out ⟨hn8, fun u v hv => arr_iff u v hv⟩ (hbw.trans (HB.out.mono hbs))
end Go.Proofs.Ybulkcstq
