/-
  OUR OWN. 'LawS4722ABlocked' (function 3): the subtasks.
-/
import Derived.Test.YbulkcstqA9
import Derived.Test.YbulkcstqPs
namespace Go.Proofs.Ybulkcstq
open Go.RowKit Go.Maps Go.WideMaps Bfs

set_option maxRecDepth 100000 in
set_option maxHeartbeats 4000000 in
theorem tail4 (w : World) (K : Act → World → Prop) (hK : ∀ a wx, (restOf Yba.f3.body 4).wp Yba.prog (bodyPost Yba.prog Yba.f3 fun e w' => e = .returned (.bool true) ∧ Below w.heap.size w w') a wx → K a wx)
    {u4 u5 u6 u7 u8 u10 u11 u12 u13 u14 u15 u16 u17 u18 u19 u20 u21 u22 u23 u24 u25 u26 u27 u28 u29 u30 u31 u32 u33 u34 u35 u36 u37 u38 u39 u40 u41 u42 u43 u44 u45 u46 u47 u48 u49 u50 u51 u52 u53 u54 u55 u56 u57 u58 u59 u60 u61 u62 u63 u64 u65 u66 u67 u68 u69 u70 u71 u72 u73 u74 u75 u76 u77 u78 u79 u80 u81 u82 u83 u84 u85 u86 u87 u88 u89 u90 u91 u92 u93 u94 u95 u96 u97 u98 u99 u100 u101 u102 u103 u104 u105 u106 u107 u108 u109 u110 u111 u112 u113 u114 u115 u116 u117 u118 u119 u120 u121 u122 u123 u124 u125 u126 u127 u128 u129 u130 u131 u132 u133 u134 u135 u136 u137 u138 u139 u140 u141 u142 u143 u144 u145 u146 u147 u148 u149 u150 u151 u152 u153 u154 u155 u156 u157 u158 u159 u160 u161 u162 u163 u164 u165 u166 u167 u168 u169 u170 u171 u172 u173 u174 u175 u176 u177 u178 u179 u180 u181 u182 u183 u184 u185 u186 u187 u188 u189 u190 u191 u192 u193 u194 u195 u196 u197 u198 u199 u200 u201 u202 u203 u204 u205 u206 u207 u208 u209 u210 u211 u212 u213 u214 u215 u216 u217 u218 u219 u220 u221 u222 u223 u224 u225 u226 u227 u228 u229 u230 u231 u232 u233 u234 u235 u236 u237 u238 u239 u240 u241 u242 u243 u244 u245 u246 u247 u248 u249 u250 u251 u252 u253 u254 u255 u256 u257 u258 u259 u260 u261 u262 u263 u264 u265 u266 u267 u268 u269 u270 u271 u272 u273 u274 u275 u276 u277 u278 u279 u280 u281 u282 u283 u284 u285 u286 u287 u288 u289 u290 u291 u292 u293 u294 u295 u296 u297 u298 u299 u300 u301 u302 u303 u304 u305 u306 u307 u308 u309 u310 u311 u312 u313 u314 u315 u316 u317 u318 u319 u320 u321 u322 u323 u324 u325 u326 u327 u328 u329 u330 u331 u332 u333 u334 u335 u336 u337 u338 u339 u340 u341 u342 u343 u344 u345 u346 u347 u348 u349 u350 u351 u352 u353 u354 u355 u356 u357 u358 u359 u360 u361 u362 u363 u364 u365 : Value}
    (n nl nc nb no nr qc qb qo nw vc vb vo nt yc yb yo : Nat) (na qa va ya : Option Addr) (xs vs ys : Nat → Nat) (vp : Nat → Bool) (inP co : Nat → Bool) (da : Nat → Option Addr) (dn dc bk off : Nat → Nat) (ds : Nat → Nat → Nat)
    (hna : 0 < n → na = some ⟨nb, no, none⟩) (hnl : n ≤ nl) (hn8 : n ≤ 8) (HN : Hid (Nodes w n nb no inP co da dn dc bk off ds))
    (HQ : Hid (Bytes w qa nr qb qo xs)) (HV : Hid (WArg w va nw vb vo vs vp)) (HY : Hid (Bytes w ya nt yb yo ys)) (hnr : nr ≤ 1024) (hnw : nw ≤ 1024) (hnt : nt ≤ 1024) :
    K { tmps := #[.slice na nl nc, .slice va nw vc, .slice ya nt yc, .slice qa nr qc, u4, u5, u6, u7, u8, .int .i64 (n : Int), u10, u11, u12, u13, u14, u15, u16, u17, u18, u19, u20, u21, u22, u23, u24, u25, u26, u27, u28, u29, u30, u31, u32, u33, u34, u35, u36, u37, u38, u39, u40, u41, u42, u43, u44, u45, u46, u47, u48, u49, u50, u51, u52, u53, u54, u55, u56, u57, u58, u59, u60, u61, u62, u63, u64, u65, u66, u67, u68, u69, u70, u71, u72, u73, u74, u75, u76, u77, u78, u79, u80, u81, u82, u83, u84, u85, u86, u87, u88, u89, u90, u91, u92, u93, u94, u95, u96, u97, u98, u99, u100, u101, u102, u103, u104, u105, u106, u107, u108, u109, u110, u111, u112, u113, u114, u115, u116, u117, u118, u119, u120, u121, u122, u123, u124, u125, u126, u127, u128, u129, u130, u131, u132, u133, u134, u135, u136, u137, u138, u139, u140, u141, u142, u143, u144, u145, u146, u147, u148, u149, u150, u151, u152, u153, u154, u155, u156, u157, u158, u159, u160, u161, u162, u163, u164, u165, u166, u167, u168, u169, u170, u171, u172, u173, u174, u175, u176, u177, u178, u179, u180, u181, u182, u183, u184, u185, u186, u187, u188, u189, u190, u191, u192, u193, u194, u195, u196, u197, u198, u199, u200, u201, u202, u203, u204, u205, u206, u207, u208, u209, u210, u211, u212, u213, u214, u215, u216, u217, u218, u219, u220, u221, u222, u223, u224, u225, u226, u227, u228, u229, u230, u231, u232, u233, u234, u235, u236, u237, u238, u239, u240, u241, u242, u243, u244, u245, u246, u247, u248, u249, u250, u251, u252, u253, u254, u255, u256, u257, u258, u259, u260, u261, u262, u263, u264, u265, u266, u267, u268, u269, u270, u271, u272, u273, u274, u275, u276, u277, u278, u279, u280, u281, u282, u283, u284, u285, u286, u287, u288, u289, u290, u291, u292, u293, u294, u295, u296, u297, u298, u299, u300, u301, u302, u303, u304, u305, u306, u307, u308, u309, u310, u311, u312, u313, u314, u315, u316, u317, u318, u319, u320, u321, u322, u323, u324, u325, u326, u327, u328, u329, u330, u331, u332, u333, u334, u335, u336, u337, u338, u339, u340, u341, u342, u343, u344, u345, u346, u347, u348, u349, u350, u351, u352, u353, u354, u355, u356, u357, u358, u359, u360, u361, u362, u363, u364, u365], defers := [] } w := by
  refine hK _ _ ?_
  refine wp_seq_of (show restOf Yba.f3.body 4 = Code.seq _ _ from rfl) ?_
  go_wp2
  go_loopw [10] (fun iv wr => ∃ i : Nat, i ≤ n ∧ iv = .int .i64 i ∧ wr = w ∧ ∀ j, j < i → dn j ≤ 1024) (fun iv _ => n - (intOf iv).toNat)
  case atStart => exact ⟨0, Nat.zero_le _, rfl, rfl, fun j hj => absurd hj (by omega)⟩
  case round =>
    obtain ⟨i, hi, rfl, rfl, hle⟩ := hrel
    have HLE := hide hle
    clear hle
    by_cases hin : i < n
    · have hg1 : decide ((i : Int) < (n : Int)) = true := decide_eq_true (by omega)
      have c2 := HN.out.c2 i hin
      obtain ⟨P, hP⟩ : ∃ P, P = dn i := ⟨_, rfl⟩
      obtain ⟨pa, hpa⟩ : ∃ pa, pa = da i := ⟨_, rfl⟩
      obtain ⟨pc, hpc⟩ : ∃ pc, pc = dc i := ⟨_, rfl⟩
      rw [← hP, ← hpa, ← hpc] at c2
      have HP := hide hP
      have hna' := hna (by omega)
      subst hna'
      clear hP hpa hpc
      by_cases hP1 : 1024 < P
      · have hg2 : decide ((1024 : Int) < (P : Int)) = true := decide_eq_true (by omega)
        go_wp2
        go_ret
        exact ⟨rfl, Below.refl _ _⟩
      · have hg2 : decide ((1024 : Int) < (P : Int)) = false := decide_eq_false (by omega)
        go_wp2
        go_roundw
        case rel =>
          refine ⟨i + 1, by omega, by go_num, trivial, fun j hj => ?_⟩
          by_cases e : j = i
          · subst e; rw [← HP.out]; omega
          · exact HLE.out j (by omega)
        case measure => simp [intOf]; omega
    · obtain rfl : i = n := by omega
      have hg1 : decide ((i : Int) < (i : Int)) = false := by simp
      have hmm := @run_makeMap Yba.prog
      have HS0 := hide (PS.start wr inP co (fun _ => .slice none 0 0) (depL dn ds))
      obtain ⟨wb, hwb⟩ : ∃ wb : World, wb = wr := ⟨_, rfl⟩
      subst hwb
      go_wp2
      clear hmm
      go_loopw [12] (fun iv wr => ∃ (k : Nat) (dv : Nat → Value), k ≤ i ∧ iv = .int .i64 k ∧ PS wb wr k inP co dv (depL dn ds)) (fun iv _ => i - (intOf iv).toNat)
      case atStart => exact ⟨0, _, Nat.zero_le _, rfl, HS0.out⟩
      case round =>
        clear HS0
        obtain ⟨k, dv, hk, rfl, hS⟩ := hrel
        by_cases hkn : k < i
        · have hg2 : decide ((k : Int) < (i : Int)) = true := decide_eq_true (by omega)
          have HNR := hide (HN.out.below hS.below)
          have c2 := HNR.out.c2 k hkn
          obtain ⟨P, hP⟩ : ∃ P, P = dn k := ⟨_, rfl⟩
          obtain ⟨pa, hpa⟩ : ∃ pa, pa = da k := ⟨_, rfl⟩
          obtain ⟨pc, hpc⟩ : ∃ pc, pc = dc k := ⟨_, rfl⟩
          rw [← hP, ← hpa, ← hpc] at c2
          have hP1 : P ≤ 1024 := by rw [hP]; exact HLE.out k hkn
          have HP := hide hP
          have HPA := hide hpa
          have hna' := hna (by omega)
          subst hna'
          have hmk := make28 P hP1
          have hnlt : nb < wr.heap.size := lt_of_cell c2
          have c2' : (wr.alloc (.cells (madeCells #[.string ByteArray.empty] P) 9)).cell? ⟨nb, no + k * 3 + 2, none⟩ = some (.slice pa P pc) := (((Below.refl wr.heap.size wr).alloc (Nat.le_refl _) _).cell (p := ⟨nb, no + k * 3 + 2, none⟩) hnlt).trans c2
          have HR0 : Hid (Below wr.heap.size wr (wr.alloc (.cells (madeCells #[.string ByteArray.empty] P) 9)) ∧ (wr.alloc (.cells (madeCells #[.string ByteArray.empty] P) 9)).ownsRow wr.heap.size 9 1 (.slice (some ⟨wr.heap.size, 0, none⟩) 0 P) 0 ((idsL 0 (ds k)).map sV)) := ⟨(Below.refl _ _).alloc (Nat.le_refl _) _, World.ownsRow_made wr _ P (Nat.le_refl _) (by unfold maxLen; omega) (size_made _ P)⟩
          have HS := hide hS
          obtain ⟨wq, hwq⟩ : ∃ wq : World, wq = wr := ⟨_, rfl⟩
          subst hwq
          clear hP hpa hpc hS
          go_wp2
          clear c2 c2' hmk
          go_loopw [13, 99] (fun sv jv wr => ∃ j : Nat, j ≤ P ∧ jv = .int .i64 j ∧ Below wq.heap.size wq wr ∧ wr.ownsRow wq.heap.size 9 1 sv j ((idsL j (ds k)).map sV)) (fun _ jv _ => P - (intOf jv).toNat)
          case atStart => exact ⟨0, Nat.zero_le _, rfl, HR0.out⟩
          case round =>
            clear HR0
            obtain ⟨j, hj, rfl, hbr, hrow⟩ := hrel
            by_cases hjP : j < P
            · have hg3 : decide ((j : Int) < (P : Int)) = true := decide_eq_true (by omega)
              have hBy := (HNR.out.below hbr).bytes hkn
              rw [← HP.out] at hBy
              have cq := hBy.cd j hjP
              have hqe := hBy.ad (by omega)
              have hle := hBy.le j hjP
              obtain ⟨x, hx⟩ : ∃ x, x = ds k j := ⟨_, rfl⟩
              obtain ⟨pb, hpb⟩ : ∃ pb, pb = bk k := ⟨_, rfl⟩
              obtain ⟨po, hpo⟩ : ∃ po, po = off k := ⟨_, rfl⟩
              rw [← hx] at cq hle
              rw [← hpb, ← hpo] at cq
              rw [← HPA.out, ← hpb, ← hpo] at hqe
              have HX := hide hx
              subst hqe
              obtain ⟨i9, hi9, hz90, hz91, hz92⟩ := info_parts info9
              have HB := hide hbr
              have HROW := hide hrow
              have hs4 := hbr.size
              clear hx hpb hpo hBy hbr hrow
              obtain ⟨q, hq⟩ : ∃ q, q = x % 9 := ⟨_, rfl⟩
              have hq9 : q < 9 := by omega
              have hqi : ((x : Int) % 9) = (q : Int) := by omega
              have HQQ := hide hq
              clear hq
              go_wp2_with fail
              clear cq
              refine (aid q hq9 _).mono ?_
              rintro e w' ⟨rfl, hw'⟩
              obtain rfl : wr = w' := hw'.symm
              have HO2 : Hid ((wr.alloc (.cells #[sV q] 9)).ownsRow wq.heap.size 9 1 u13 j ((idsL j (ds k)).map sV)) := HROW.out.alloc _
              have HNW2 := hide (World.news_of_block (Blk.made wr #[sV q] 9))
              have H12 : Hid (∀ x ∈ [sV q], x.oneCell' = true) := by intro x hx; simp at hx; subst hx; rfl
              go_wp2_with (at_builtin; refine wpList_append_lies _ rfl (.tmp 103) (.tmp 108) 28 rfl wq.heap.size 9 i9 (.string ByteArray.empty) 1 16 Yba.underlying28 hi9 hz90 hz91 hz92 rfl (by decide) _ j _ rfl HO2.out ⟨wr.heap.size, 0, none⟩ 1 1 _ rfl rfl HNW2.out H12.out (by omega) (by unfold maxLen; omega) (by omega) (by simp; omega) _ rfl ?_; intro g5 cap5 w5 hown5 hgrow5 hat5 hlt5)
              have hB5 : Below wq.heap.size wq w5 := (HB.out.alloc hs4 _).grown hgrow5 (Nat.le_trans hs4 (by simp)) (fun b hb => (HROW.out.lt b hb).1)
              have e5 : (idsL (j + 1) (ds k)).map sV = (idsL j (ds k)).map sV ++ [sV q] := by rw [idsL_succ, List.map_append, HQQ.out, HX.out]; rfl
              rw [← e5] at hown5
              exact ⟨⟨j + 1, by omega, by go_num, hB5, hown5⟩, by simp [intOf]; omega⟩
            · obtain rfl : j = P := by omega
              have hg3 : decide ((j : Int) < (j : Int)) = false := by simp
              have hk9 : k < 9 := by omega
              obtain ⟨sa, sc, hsv, _, _⟩ := ownsRow_slice hrow
              subst hsv
              have HP2 := hide (HS.out.later hbr)
              have HNK := hide (HNR.out.below hbr)
              have c0 := HNK.out.c0 k hkn
              have c1 := HNK.out.c1 k hkn
              have hnlt2 := lt_of_cell c0
              obtain ⟨w1, hrun, hM1, ht1⟩ := HP2.out.map.drew.store law9 Yba.underlying27 (by unfold maxLen; omega) string_inj (val := subV (inP k) (.slice sa j sc) (co k)) (keyId k)
              have HF : Hid (PS wb w1 (k + 1) inP co (fun i => if i = k then .slice sa j sc else dv i) (depL dn ds)) := by
                refine HP2.out.drew.put hk9 rfl hM1 ht1 ?_
                rw [depL_ids, ← HP.out, idsL_len]
                exact (row0 hrow).kept (below_grown (Below.drew (Below.refl _ _))) (own_or _)
              have HB := hide hbr
              have hmb : wb.heap.size < wr.heap.size := HP2.out.map.lt
              have hknl : k < nl := by omega
              clear hbr hrow hM1 ht1
              go_upto_region 21 with fail
              go_region_law (refine step_aid rfl (.tmp 112) rfl k hk9 (by simp [Act.eval, Act.put]) ?_)
              all_goals
                go_wp2
                go_roundw
                case rel => exact ⟨k + 1, _, by omega, by go_num, HF.out⟩
                case measure => simp [intOf]; omega
        · obtain rfl : k = i := by omega
          have hg2 : decide ((k : Int) < (k : Int)) = false := by simp
          have HS := hide hS
          have h41 := zero41
          clear hS
          go_upto_region 23 with fail
          go_cut [17] (fun v wz => v = .pointer (some ⟨wr.heap.size + 1, 0, none⟩) ∧ ∃ SW sw2, SW.toList = Value.slice none 0 0 :: Value.slice none 0 0 :: sw2 ∧ sw2[1]? = some (.map (some wb.heap.size)) ∧ wz = (wr.alloc (.cells zb9 41)).alloc (.cells SW 51))
          case first =>
            go_wp2_with fail
            go_meet
            case rel => exact ⟨rfl, _, _, rfl, rfl, rfl⟩
          case rest =>
          obtain ⟨rfl, SW, sw2, h1, h2, rfl⟩ := hcut
          have hbb := HS.out.below
          exact tail9 wb wr _ (by assumption) k nl nc nb no nr qc qb qo wb.heap.size nw vc vb vo nt yc yb yo na qa va ya xs vs ys vp inP co dv da dn dc bk off ds SW sw2 hna hnl (HN.out.below hbb) HLE.out (HQ.out.below hbb) (HV.out.below hbb) (HY.out.below hbb) h1 h2
            ⟨HS.out.map, HS.out.rows, fun i hi d hd => idsL_lt _ _ d hd, fun i hi => by rw [depL_len]; exact HLE.out i hi, hn8⟩ hnr hnw hnt hbb
end Go.Proofs.Ybulkcstq
