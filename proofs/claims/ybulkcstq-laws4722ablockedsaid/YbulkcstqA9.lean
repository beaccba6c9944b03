/-
  OUR OWN. 'LawS4722ABlocked' (function 3): the workers.
-/
import Derived.Test.YbulkcstqA12
import Derived.Test.YbulkcstqWs
namespace Go.Proofs.Ybulkcstq
open Go.RowKit Go.Maps Go.WideMaps Bfs

set_option maxRecDepth 100000 in
set_option maxHeartbeats 4000000 in
theorem tail9 (w w0 : World) (K : Act → World → Prop) (hK : ∀ a wx, (restOf Yba.f3.body 9).wp Yba.prog (bodyPost Yba.prog Yba.f3 fun e w' => e = .returned (.bool true) ∧ Below w.heap.size w w') a wx → K a wx)
    {u4 u5 u6 u7 u8 u10 u11 u12 u13 u14 u15 u18 u19 u20 u21 u22 u23 u24 u25 u26 u27 u28 u29 u30 u31 u32 u33 u34 u35 u36 u37 u38 u39 u40 u41 u42 u43 u44 u45 u46 u47 u48 u49 u50 u51 u52 u53 u54 u55 u56 u57 u58 u59 u60 u61 u62 u63 u64 u65 u66 u67 u68 u69 u70 u71 u72 u73 u74 u75 u76 u77 u78 u79 u80 u81 u82 u83 u84 u85 u86 u87 u88 u89 u90 u91 u92 u93 u94 u95 u96 u97 u98 u99 u100 u101 u102 u103 u104 u105 u106 u107 u108 u109 u110 u111 u112 u113 u114 u115 u116 u117 u118 u119 u120 u121 u122 u123 u124 u125 u126 u127 u128 u129 u130 u131 u132 u133 u134 u135 u136 u137 u138 u139 u140 u141 u142 u143 u144 u145 u146 u147 u148 u149 u150 u151 u152 u153 u154 u155 u156 u157 u158 u159 u160 u161 u162 u163 u164 u165 u166 u167 u168 u169 u170 u171 u172 u173 u174 u175 u176 u177 u178 u179 u180 u181 u182 u183 u184 u185 u186 u187 u188 u189 u190 u191 u192 u193 u194 u195 u196 u197 u198 u199 u200 u201 u202 u203 u204 u205 u206 u207 u208 u209 u210 u211 u212 u213 u214 u215 u216 u217 u218 u219 u220 u221 u222 u223 u224 u225 u226 u227 u228 u229 u230 u231 u232 u233 u234 u235 u236 u237 u238 u239 u240 u241 u242 u243 u244 u245 u246 u247 u248 u249 u250 u251 u252 u253 u254 u255 u256 u257 u258 u259 u260 u261 u262 u263 u264 u265 u266 u267 u268 u269 u270 u271 u272 u273 u274 u275 u276 u277 u278 u279 u280 u281 u282 u283 u284 u285 u286 u287 u288 u289 u290 u291 u292 u293 u294 u295 u296 u297 u298 u299 u300 u301 u302 u303 u304 u305 u306 u307 u308 u309 u310 u311 u312 u313 u314 u315 u316 u317 u318 u319 u320 u321 u322 u323 u324 u325 u326 u327 u328 u329 u330 u331 u332 u333 u334 u335 u336 u337 u338 u339 u340 u341 u342 u343 u344 u345 u346 u347 u348 u349 u350 u351 u352 u353 u354 u355 u356 u357 u358 u359 u360 u361 u362 u363 u364 u365 : Value}
    (n nl nc nb no nr qc qb qo sb nw vc vb vo nt yc yb yo : Nat) (na qa va ya : Option Addr) (xs vs ys : Nat → Nat) (vp : Nat → Bool) (inP co : Nat → Bool) (dv : Nat → Value) (da : Nat → Option Addr) (dn dc bk off : Nat → Nat) (ds : Nat → Nat → Nat) (SW : Array Value) (sw2 : List Value)
    (hna : 0 < n → na = some ⟨nb, no, none⟩) (hnl : n ≤ nl) (HN : Hid (Nodes w0 n nb no inP co da dn dc bk off ds)) (HDN : Hid (∀ i, i < n → dn i ≤ 1024))
    (HQ : Hid (Bytes w0 qa nr qb qo xs)) (HV : Hid (WArg w0 va nw vb vo vs vp)) (HY : Hid (Bytes w0 ya nt yb yo ys)) (HSW1 : Hid (SW.toList = .slice none 0 0 :: .slice none 0 0 :: sw2)) (HSW2 : Hid (sw2[1]? = some (.map (some sb))))
    (HSB : Hid (SubOk w0 sb n inP co dv (depL dn ds))) (hnr : nr ≤ 1024) (hnw : nw ≤ 1024) (hnt : nt ≤ 1024) (hbw : Below w.heap.size w w0) :
    K { tmps := #[.slice na nl nc, .slice va nw vc, .slice ya nt yc, .slice qa nr qc, u4, u5, u6, u7, u8, .int .i64 (n : Int), u10, u11, u12, u13, u14, u15, .pointer (some ⟨w0.heap.size, 0, none⟩), .pointer (some ⟨w0.heap.size + 1, 0, none⟩), u18, u19, u20, u21, u22, u23, u24, u25, u26, u27, u28, u29, u30, u31, u32, u33, u34, u35, u36, u37, u38, u39, u40, u41, u42, u43, u44, u45, u46, u47, u48, u49, u50, u51, u52, u53, u54, u55, u56, u57, u58, u59, u60, u61, u62, u63, u64, u65, u66, u67, u68, u69, u70, u71, u72, u73, u74, u75, u76, u77, u78, u79, u80, u81, u82, u83, u84, u85, u86, u87, u88, u89, u90, u91, u92, u93, u94, u95, u96, u97, u98, u99, u100, u101, u102, u103, u104, u105, u106, u107, u108, u109, u110, u111, u112, u113, u114, u115, u116, u117, u118, u119, u120, u121, u122, u123, u124, u125, u126, u127, u128, u129, u130, u131, u132, u133, u134, u135, u136, u137, u138, u139, u140, u141, u142, u143, u144, u145, u146, u147, u148, u149, u150, u151, u152, u153, u154, u155, u156, u157, u158, u159, u160, u161, u162, u163, u164, u165, u166, u167, u168, u169, u170, u171, u172, u173, u174, u175, u176, u177, u178, u179, u180, u181, u182, u183, u184, u185, u186, u187, u188, u189, u190, u191, u192, u193, u194, u195, u196, u197, u198, u199, u200, u201, u202, u203, u204, u205, u206, u207, u208, u209, u210, u211, u212, u213, u214, u215, u216, u217, u218, u219, u220, u221, u222, u223, u224, u225, u226, u227, u228, u229, u230, u231, u232, u233, u234, u235, u236, u237, u238, u239, u240, u241, u242, u243, u244, u245, u246, u247, u248, u249, u250, u251, u252, u253, u254, u255, u256, u257, u258, u259, u260, u261, u262, u263, u264, u265, u266, u267, u268, u269, u270, u271, u272, u273, u274, u275, u276, u277, u278, u279, u280, u281, u282, u283, u284, u285, u286, u287, u288, u289, u290, u291, u292, u293, u294, u295, u296, u297, u298, u299, u300, u301, u302, u303, u304, u305, u306, u307, u308, u309, u310, u311, u312, u313, u314, u315, u316, u317, u318, u319, u320, u321, u322, u323, u324, u325, u326, u327, u328, u329, u330, u331, u332, u333, u334, u335, u336, u337, u338, u339, u340, u341, u342, u343, u344, u345, u346, u347, u348, u349, u350, u351, u352, u353, u354, u355, u356, u357, u358, u359, u360, u361, u362, u363, u364, u365], defers := [] } ((w0.alloc (.cells zb9 41)).alloc (.cells SW 51)) := by
  refine hK _ _ ?_
  refine wp_seq_of (show restOf Yba.f3.body 9 = Code.seq _ _ from rfl) ?_
  have hbs := hbw.size
  have HW0 := hide (WS.start w0 SW sw2 HSW1.out)
  go_wp2
  go_loopw [131] (fun iv wr => ∃ (k : Nat) (wv : Value), k ≤ nw ∧ iv = .int .i64 k ∧ WS w0 wr sw2 (heldS (wrkL k vs vp) []) wv (.slice none 0 0) (wrkL k vs vp) []) (fun iv _ => nw - (intOf iv).toNat)
  case atStart => exact ⟨0, _, Nat.zero_le _, rfl, HW0.out.sameH fun x => by simp [heldS, heldW, wrkL]⟩
  case round =>
    clear HW0
    obtain ⟨k, wv, hk, rfl, hS⟩ := hrel
    by_cases hkn : k < nw
    · have hg1 : decide ((k : Int) < (nw : Int)) = true := decide_eq_true (by omega)
      have hV := HV.out.below hS.below
      have c0 := hV.c0 k hkn
      have c1 := hV.c1 k hkn
      have hve := hV.ad (by omega)
      have hle := hV.le k hkn
      obtain ⟨x, hx⟩ : ∃ x, x = vs k := ⟨_, rfl⟩
      obtain ⟨p, hp⟩ : ∃ p, p = vp k := ⟨_, rfl⟩
      rw [← hx] at c0 hle
      rw [← hp] at c1
      have HX := hide hx
      have HP := hide hp
      subst hve
      have HS := hide hS
      clear hx hp hS hV
      go_upto_region 28 with fail
      obtain ⟨q, hq⟩ : ∃ q, q = x % 9 := ⟨_, rfl⟩
      have hq9 : q < 9 := by omega
      have hqi : ((x : Int) % 9) = (q : Int) := by omega
      have HQQ := hide hq
      rw [hqi]
      clear hq hqi c0 c1
      have hE := Blk.made wr #[.int .u8 (x : Nat), .bool p] 53
      have hS1 := HS.out.alloc (.cells #[.int .u8 (x : Nat), .bool p] 53)
      obtain ⟨eb, heb⟩ : ∃ eb, eb = wr.heap.size := ⟨_, rfl⟩
      have HEN : Hid (wv.ownBlock ≠ some eb ∧ eb ≠ w0.heap.size + 1) := ⟨fun e => by have := (HS.out.wr.lt _ e).2; omega, by have := HS.out.sw.lt; omega⟩
      rw [← heb] at hE ⊢
      clear heb
      generalize wr.alloc (.cells #[.int .u8 (x : Nat), .bool p] 53) = wq at hE hS1 ⊢
      obtain ⟨N, hN⟩ : ∃ N, N = (wrkL k vs vp).length := ⟨_, rfl⟩
      have hN1 : N = k := by rw [hN, wrkL_len]
      have hNk : N ≤ 1024 := by omega
      obtain ⟨HO, HNW, H1, HR⟩ := hS1.preW q p hN
      have HNN := hide hN
      clear hN hN1
      obtain ⟨wa, wcap, hwv, _, _⟩ := ownsRow_slice hS1.wr
      rw [← HNN.out] at hwv
      subst hwv
      have d0 : wq.cell? ⟨w0.heap.size + 1, 0, none⟩ = some (.slice wa N wcap) := hS1.sw.cell rfl
      have d1 : wq.cell? ⟨eb, 1, none⟩ = some (.bool p) := hE.cell rfl
      have hl0 : w0.heap.size + 1 < wq.heap.size := hS1.sw.lt
      have hl1 : eb < wq.heap.size := hE.lt
      have HCE : Hid (∀ (w1 : World) (v : Value), (wq.alloc (.cells (wA q p) 55)).drew.grownBy w1 (Value.slice wa N wcap).ownBlock → (w1.setCell ⟨w0.heap.size + 1, 0, none⟩ v).cell? ⟨eb, 1, none⟩ = some (.bool p)) := by
        intro w1 v hg
        exact (((hE.alloc (.cells (wA q p) 55)).drew.grown hg (fun e => HEN.out.1 e.symm)).other (a := ⟨w0.heap.size + 1, 0, none⟩) HEN.out.2 v).cell rfl
      obtain ⟨i0, hi0, hz0, hz1, hz2⟩ := info_parts info55
      have HS1 := hide hS1
      clear hS1 hE HS
      go_cut [] (fun wc => ∃ wv', WS w0 wc sw2 (heldS (wrkL k vs vp) []) wv' (.slice none 0 0) (wrkL k vs vp ++ [(q, p)]) [] ∧ wc.cell? ⟨eb, 1, none⟩ = some (.bool p))
      case first =>
        go_region_law (first
          | (refine step_aid rfl (.tmp 144) rfl q hq9 (by simp [Act.eval, Act.put]) ?_)
          | (refine step_append_lies _ rfl (.tmp 143) (.tmp 149) 43 rfl (w0.heap.size + 2) 55 i0 (.agg #[.string ByteArray.empty, .string ByteArray.empty, .bool false, .int .u64 0, .int .i64 0, .pointer none, .int .u64 0, .int .i64 0, .pointer none, .string ByteArray.empty]) 10 104 Yba.underlying43 hi0 hz0 hz1 hz2 rfl (by decide) (.slice wa N wcap) N _ (by simp [Act.eval]) HO.out ⟨wq.heap.size, 0, none⟩ 1 1 (wA q p).toList (by simp [Act.eval]) rfl HNW.out H1.out (by omega) (by unfold maxLen; omega) (by omega) (by simp; omega) _ rfl ?_; intro g cap w1 hown1 hgrow1 hat1 hlt1; obtain ⟨c31, f31⟩ := HR.out w1 hgrow1; have HF := hide (HS1.out.pushW HNN.out hown1 hgrow1 hat1 (Nat.le_refl _)); have HCF := hide (HCE.out w1 (.slice (some ⟨g, 0, none⟩) (N + 1) cap) hgrow1)))
        all_goals
          go_wp2_with fail
          go_meet
          case rel => exact ⟨_, HF.out, HCF.out⟩
      case rest =>
      obtain ⟨wv', hS2, hce⟩ := hcut
      have hhe := hS2.he.cell hq9
      have hhf := hS2.he.free q
      have hqk : (q, p) = (vs k % 9, vp k) := by rw [HQQ.out, HX.out, HP.out]
      have HWK : Hid (wrkL (k + 1) vs vp = wrkL k vs vp ++ [(q, p)]) := by rw [wrkL_succ, ← hqk]; rfl
      have HS2 := hide hS2
      clear hS2 hqk HS1 HCE HO HNW H1 HR d0 d1
      cases p with
      | true =>
        go_wp2
        go_roundw
        case rel =>
          refine ⟨k + 1, wv', by omega, by go_num, ?_⟩
          rw [HWK.out]
          refine (HS2.out.hold q).sameH fun x => ?_
          simp only [heldS, List.any_nil, Bool.or_false, heldW_snoc, Bool.true_and]
          rw [Bool.beq_comm]
        case measure => simp [intOf]; omega
      | false =>
        go_wp2
        go_roundw
        case rel =>
          refine ⟨k + 1, wv', by omega, by go_num, ?_⟩
          rw [HWK.out]
          refine HS2.out.sameH fun x => ?_
          simp only [heldS, List.any_nil, Bool.or_false, heldW_snoc, Bool.false_and, Bool.false_or]
        case measure => simp [intOf]; omega
    · obtain rfl : k = nw := by omega
      have hg1 : decide ((k : Int) < (k : Int)) = false := by simp
      have HS := hide hS
      clear hS
      go_wp2
      go_loopw [160] (fun iv wq => ∃ (j : Nat) (tv : Value), j ≤ nt ∧ iv = .int .i64 j ∧ WS w0 wq sw2 (heldS (wrkL k vs vp) (idsL j ys)) wv tv (wrkL k vs vp) (idsL j ys)) (fun iv _ => nt - (intOf iv).toNat)
      case atStart => exact ⟨0, _, Nat.zero_le _, rfl, HS.out⟩
      case round =>
        clear HS
        obtain ⟨j, tv, hj, rfl, hS⟩ := hrel
        by_cases hjn : j < nt
        · have hg2 : decide ((j : Int) < (nt : Int)) = true := decide_eq_true (by omega)
          have hY := HY.out.below hS.below
          have c0 := hY.cd j hjn
          have hye := hY.ad (by omega)
          have hle := hY.le j hjn
          obtain ⟨x, hx⟩ : ∃ x, x = ys j := ⟨_, rfl⟩
          rw [← hx] at c0 hle
          have HX := hide hx
          subst hye
          have HS := hide hS
          clear hx hS hY
          go_upto_region 36 with fail
          obtain ⟨q, hq⟩ : ∃ q, q = x % 9 := ⟨_, rfl⟩
          have hq9 : q < 9 := by omega
          have hqi : ((x : Int) % 9) = (q : Int) := by omega
          have HQQ := hide hq
          rw [hqi]
          clear hq hqi c0
          obtain ⟨N, hN⟩ : ∃ N, N = (idsL j ys).length := ⟨_, rfl⟩
          have hN1 : N = j := by rw [hN, idsL_len]
          have hNk : N ≤ 1024 := by omega
          obtain ⟨HO, HNW, H1, HR⟩ := HS.out.preT q hN
          have HNN := hide hN
          clear hN hN1
          obtain ⟨ta, tcap, htv, _, _⟩ := ownsRow_slice HS.out.tr
          rw [← HNN.out] at htv
          subst htv
          have d0 : wr.cell? ⟨w0.heap.size + 1, 1, none⟩ = some (.slice ta N tcap) := HS.out.sw.cell rfl
          have hl0 : w0.heap.size + 1 < wr.heap.size := HS.out.sw.lt
          obtain ⟨i0, hi0, hz0, hz1, hz2⟩ := info_parts info55
          go_cut [] (fun wc => ∃ tv', WS w0 wc sw2 (heldS (wrkL k vs vp) (idsL j ys)) wv tv' (wrkL k vs vp) (idsL j ys ++ [q]))
          case first =>
            go_region_law (first
              | (refine step_aid rfl (.tmp 172) rfl q hq9 (by simp [Act.eval, Act.put]) ?_)
              | (refine step_append_lies _ rfl (.tmp 171) (.tmp 175) 43 rfl (w0.heap.size + 2) 55 i0 (.agg #[.string ByteArray.empty, .string ByteArray.empty, .bool false, .int .u64 0, .int .i64 0, .pointer none, .int .u64 0, .int .i64 0, .pointer none, .string ByteArray.empty]) 10 104 Yba.underlying43 hi0 hz0 hz1 hz2 rfl (by decide) (.slice ta N tcap) N _ (by simp [Act.eval]) HO.out ⟨wr.heap.size, 0, none⟩ 1 1 (tA q).toList (by simp [Act.eval]) rfl HNW.out H1.out (by omega) (by unfold maxLen; omega) (by omega) (by simp; omega) _ rfl ?_; intro g cap w1 hown1 hgrow1 hat1 hlt1; obtain ⟨c31, f31⟩ := HR.out w1 hgrow1; have HF := hide (HS.out.pushT HNN.out hown1 hgrow1 hat1 (Nat.le_refl _))))
            all_goals
              go_wp2_with fail
              go_meet
              case rel => exact ⟨_, HF.out⟩
          case rest =>
          obtain ⟨tv', hS2⟩ := hcut
          have hhe := hS2.he.cell hq9
          have hhf := hS2.he.free q
          have hqk : q = ys j % 9 := by rw [HQQ.out, HX.out]
          have HWK : Hid (idsL (j + 1) ys = idsL j ys ++ [q]) := by rw [idsL_succ, ← hqk]; rfl
          have HS2 := hide hS2
          clear hS2 hqk HO HNW H1 HR d0 HS
          go_wp2
          go_roundw
          case rel =>
            refine ⟨j + 1, tv', by omega, by go_num, ?_⟩
            rw [HWK.out]
            refine (HS2.out.hold q).sameH fun x => ?_
            rw [heldS_snoc, Bool.beq_comm]
          case measure => simp [intOf]; omega
        · obtain rfl : j = nt := by omega
          have hg2 : decide ((j : Int) < (j : Int)) = false := by simp
          obtain ⟨wa, wcap, hwv, _, _⟩ := ownsRow_slice hS.wr
          obtain ⟨ta, tcap, htv, _, _⟩ := ownsRow_slice hS.tr
          rw [wrkL_len] at hwv
          rw [idsL_len] at htv
          subst hwv htv
          have HS := hide hS
          have hmk := make28 nr hnr
          clear hS
          go_upto_region 39 with fail
          go_cut [24] (fun v wz => v = .slice (some ⟨wr.heap.size, 0, none⟩) 0 nr ∧ wz = wr.alloc (.cells (madeCells #[.string ByteArray.empty] nr) 9))
          case first =>
            go_wp2_with fail
            go_meet
            case rel => exact ⟨rfl, rfl⟩
          case rest =>
          obtain ⟨rfl, rfl⟩ := hcut
          have hbb := HS.out.below
          exact tail12 w wr _ (by assumption) n nl nc nb no w0.heap.size (w0.heap.size + 1) nr qc qb qo sb k j wcap tcap na qa wa ta (wrkL k vs vp) (idsL j ys) xs inP co dv da dn dc bk off ds hna hnl (HN.out.below hbb) HDN.out HS.out.he (HQ.out.below hbb)
            (HS.out.swOk (wrkL_len _ _ _).symm (idsL_len _ _).symm HSW2.out (wrkL_lt _ _ _) (idsL_lt _ _) hnw hnt) ⟨HSB.out.map.below hbb HSB.out.map.lt, fun i hi => (HSB.out.rows i hi).kept (below_grown hbb) (own_or _), HSB.out.small, HSB.out.len, HSB.out.n8⟩ hnr (hbw.trans (hbb.mono hbs))
end Go.Proofs.Ybulkcstq
