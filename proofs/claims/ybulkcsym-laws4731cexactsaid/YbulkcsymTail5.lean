/-
  OUR OWN. 'LawS4731CExact' (function 5): the sessions are filled.
-/
import Derived.Test.YbulkcsymTail9
namespace Go.Proofs.Ybulkcsym
open Go.RowKit

set_option maxRecDepth 100000 in
set_option maxHeartbeats 4000000 in
theorem tail5 (w wc : World) (K : Act → World → Prop) (hK : ∀ a wx, (restOf Yba.f5.body 5).wp Yba.prog (bodyPost Yba.prog Yba.f5 fun e w' => e = .returned (.bool true) ∧ Below w.heap.size w w') a wx → K a wx)
    {u1 u4 u5 u6 u7 u8 u12 u13 u14 u15 u16 u17 u18 u19 u20 u21 u22 u23 u24 u25 u26 u27 u28 u29 u30 u31 u32 u33 u34 u35 u36 u37 u38 u39 u40 u41 u42 u43 u44 u45 u46 u47 u48 u49 u50 u51 u52 u53 u54 u55 u56 u57 u58 u59 u60 u61 u62 u63 u64 u65 u66 u67 u68 u69 u70 u71 u72 u73 u74 u75 u76 u77 u78 u79 u80 u81 u82 u83 u84 u85 u86 u87 u88 u89 u90 u91 u92 u93 u94 u95 u96 u97 u98 u99 u100 u101 u102 u103 u104 u105 u106 u107 u108 u109 u110 u111 u112 u113 u114 u115 u116 u117 u118 u119 u120 u121 u122 u123 u124 u125 u126 u127 u128 u129 u130 u131 u132 u133 u134 u135 u136 u137 u138 u139 u140 u141 u142 u143 u144 u145 u146 u147 u148 u149 u150 u151 u152 u153 u154 u155 u156 u157 u158 u159 u160 u161 u162 u163 u164 u165 u166 u167 u168 u169 u170 u171 u172 u173 u174 u175 u176 u177 u178 u179 u180 u181 u182 u183 u184 u185 u186 u187 u188 u189 u190 u191 u192 u193 u194 u195 u196 u197 u198 u199 u200 u201 u202 u203 u204 u205 u206 u207 u208 u209 u210 u211 u212 u213 u214 u215 u216 u217 u218 u219 u220 u221 u222 u223 u224 u225 u226 u227 u228 u229 u230 u231 u232 u233 u234 u235 u236 u237 u238 u239 u240 u241 u242 u243 u244 u245 u246 u247 u248 u249 u250 u251 u252 u253 u254 u255 u256 u257 u258 u259 u260 u261 u262 u263 u264 u265 u266 u267 u268 u269 u270 u271 u272 u273 u274 u275 u276 u277 u278 u279 u280 u281 u282 u283 u284 u285 u286 u287 u288 u289 u290 u291 u292 u293 u294 u295 u296 u297 u298 u299 u300 u301 u302 u303 u304 u305 u306 u307 u308 u309 u310 u311 u312 u313 u314 u315 u316 u317 u318 u319 u320 u321 u322 u323 u324 u325 u326 u327 u328 u329 u330 u331 u332 u333 u334 u335 u336 u337 u338 u339 u340 u341 u342 u343 u344 u345 u346 u347 u348 : Value} (a0 a2 a3 : Option Addr) (n c0 b0 o0 S lw c2 b2 o2 lc c3 b3 o3 tb sb : Nat) (sd wd cd : List Int)
    (h0 : 0 < n → a0 = some ⟨b0, o0, none⟩) (R0 : Hid (∀ i, i < n → 0 ≤ sd.getD i 0 ∧ sd.getD i 0 ≤ 255)) (X0 : Hid (∀ i, i < n → w.cell? ⟨b0, o0 + i, none⟩ = some (.int .u8 (sd.getD i 0)))) (t0 : 0 < n → b0 < w.heap.size)
    (h2 : 0 < lw → a2 = some ⟨b2, o2, none⟩) (R2 : Hid (∀ i, i < lw → 0 ≤ wd.getD i 0 ∧ wd.getD i 0 ≤ 255)) (X2 : Hid (∀ i, i < lw → w.cell? ⟨b2, o2 + i, none⟩ = some (.int .u8 (wd.getD i 0)))) (t2 : 0 < lw → b2 < w.heap.size)
    (h3 : 0 < lc → a3 = some ⟨b3, o3, none⟩) (R3 : Hid (∀ i, i < lc → 0 ≤ cd.getD i 0 ∧ cd.getD i 0 ≤ 255)) (X3 : Hid (∀ i, i < lc → w.cell? ⟨b3, o3 + i, none⟩ = some (.int .u8 (cd.getD i 0)))) (t3 : 0 < lc → b3 < w.heap.size)
    (hn : n ≤ 300) (hlw : lw ≤ 4096) (hlc : lc ≤ 4096) (hS1 : 1 ≤ S) (hS4 : S ≤ 4) (hst : Start0 w wc n S tb sb) :
    K { tmps := #[.slice a0 n c0, u1, .slice a2 lw c2, .slice a3 lc c3, u4, u5, u6, u7, u8, .int .i64 n, .int .i64 S, .pointer (some ⟨w.heap.size + 2, 0, none⟩), u12, u13, u14, u15, u16, u17, u18, u19, u20, u21, u22, u23, u24, u25, u26, u27, u28, u29, u30, u31, u32, u33, u34, u35, u36, u37, u38, u39, u40, u41, u42, u43, u44, u45, u46, u47, u48, u49, u50, u51, u52, u53, u54, u55, u56, u57, u58, u59, u60, u61, u62, u63, u64, u65, u66, u67, u68, u69, u70, u71, u72, u73, u74, u75, u76, u77, u78, u79, u80, u81, u82, u83, u84, u85, u86, u87, u88, u89, u90, u91, u92, u93, u94, u95, u96, u97, u98, u99, u100, u101, u102, u103, u104, u105, u106, u107, u108, u109, u110, u111, u112, u113, u114, u115, u116, u117, u118, u119, u120, u121, u122, u123, u124, u125, u126, u127, u128, u129, u130, u131, u132, u133, u134, u135, u136, u137, u138, u139, u140, u141, u142, u143, u144, u145, u146, u147, u148, u149, u150, u151, u152, u153, u154, u155, u156, u157, u158, u159, u160, u161, u162, u163, u164, u165, u166, u167, u168, u169, u170, u171, u172, u173, u174, u175, u176, u177, u178, u179, u180, u181, u182, u183, u184, u185, u186, u187, u188, u189, u190, u191, u192, u193, u194, u195, u196, u197, u198, u199, u200, u201, u202, u203, u204, u205, u206, u207, u208, u209, u210, u211, u212, u213, u214, u215, u216, u217, u218, u219, u220, u221, u222, u223, u224, u225, u226, u227, u228, u229, u230, u231, u232, u233, u234, u235, u236, u237, u238, u239, u240, u241, u242, u243, u244, u245, u246, u247, u248, u249, u250, u251, u252, u253, u254, u255, u256, u257, u258, u259, u260, u261, u262, u263, u264, u265, u266, u267, u268, u269, u270, u271, u272, u273, u274, u275, u276, u277, u278, u279, u280, u281, u282, u283, u284, u285, u286, u287, u288, u289, u290, u291, u292, u293, u294, u295, u296, u297, u298, u299, u300, u301, u302, u303, u304, u305, u306, u307, u308, u309, u310, u311, u312, u313, u314, u315, u316, u317, u318, u319, u320, u321, u322, u323, u324, u325, u326, u327, u328, u329, u330, u331, u332, u333, u334, u335, u336, u337, u338, u339, u340, u341, u342, u343, u344, u345, u346, u347, u348], defers := [] } wc := by
  refine hK _ _ ?_
  refine wp_seq_of (show restOf Yba.f5.body 5 = Code.seq _ _ from rfl) ?_
  have HI := hide fun w => run_make_row' (P := Yba.prog) 22 3 (.int .i64 0) 8 Yba.underlying22 info3' rfl .i64 .i64 n (by omega) (by omega) w
  have hz : wc.heap.size = w.heap.size + 3 := hst.2.2.2.2.2.2.2
  have hIm := HI.out
  obtain ⟨sv, hsv⟩ : ∃ sv : Nat → Nat, sv = fun t => (sd.getD t 0).toNat % S := ⟨_, rfl⟩
  have HSV := hide hsv
  clear hsv
  go_wp2
  go_loopg [14] n (fun g i wr => ∃ (k : Nat) (Sv : Nat → Value) (xs : Nat → List Value) (Ls Li Lt : List Value), k ≤ n ∧ g = n - k ∧ i = .int .i64 k ∧ P1 w wr tb sb n S Sv xs Ls Li Lt ∧ Good sv n S k xs Ls Li Lt)
  case atStart => exact ⟨0, _, _, _, _, _, Nat.zero_le _, rfl, rfl, hst.p1, good_start sv n S⟩
  case round =>
    obtain ⟨k, Sv, xs, Ls, Li, Lt, hkn, hgk, rfl, hP, hG⟩ := hrel
    have HG := hide hgk
    clear hgk hIm
    by_cases hlt : k < n
    · obtain ⟨x, hx⟩ : ∃ x, x = sd.getD k 0 := ⟨_, rfl⟩
      have hcx : wr.cell? ⟨b0, o0 + k, none⟩ = some (.int .u8 x) := by rw [hx]; exact (hP.below.cell (t0 (by omega))).trans (X0.out k hlt)
      have hix := index_slice Yba.underlying50 size5 h0 c0 hlt
      have hx0 : 0 ≤ x := by rw [hx]; exact (R0.out k hlt).1
      have hx1 : x ≤ 255 := by rw [hx]; exact (R0.out k hlt).2
      obtain ⟨s, hs⟩ : ∃ s, s = sv k := ⟨_, rfl⟩
      have hxs : x % (S : Int) = (s : Nat) := by
        rw [hs, HSV.out]
        show x % (S : Int) = (((sd.getD k 0).toNat % S : Nat) : Int)
        rw [← hx, Int.natCast_emod, Int.toNat_of_nonneg hx0]
      have hsS : s < S := by rw [hs, HSV.out]; exact Nat.mod_lt _ (by omega)
      have hsS' : (s : Int) < (S : Int) := by omega
      obtain ⟨c, hc⟩ : ∃ c, c = (xs s).length := ⟨_, rfl⟩
      have hc3 : c ≤ 300 := by rw [hc, hG.len s hsS]; have := cs_le sv s k; omega
      obtain ⟨sn, sg, hsn, _⟩ := ownsRow_slice (hP.fam.rows s hsS)
      have cs1 : wr.cell? ⟨sb, s, none⟩ = some (.slice sn c sg) := by rw [hc, ← hsn]; exact hP.fam.cell hsS
      have cm1 : wr.cell? ⟨w.heap.size + 2, 1, none⟩ = some (.slice (some ⟨sb, 0, none⟩) S S) := hP.com.cell rfl
      have cm0 : wr.cell? ⟨w.heap.size + 2, 0, none⟩ = some (.slice (some ⟨tb, 0, none⟩) n n) := hP.com.cell rfl
      obtain ⟨v1, hv1⟩ : ∃ v, Ls[k]? = some v := ⟨_, List.getElem?_eq_getElem (by rw [hG.ls]; exact hlt)⟩
      obtain ⟨v2, hv2⟩ : ∃ v, Li[k]? = some v := ⟨_, List.getElem?_eq_getElem (by rw [hG.li]; exact hlt)⟩
      obtain ⟨v3, hv3⟩ : ∃ v, Lt[k * 8 + 1]? = some v := ⟨_, List.getElem?_eq_getElem (by rw [hG.lt]; omega)⟩
      have q1 : wr.cell? ⟨w.heap.size + 3, k, none⟩ = some v1 := hP.hso.cell hv1
      have q2 : wr.cell? ⟨w.heap.size + 3 + 1, k, none⟩ = some v2 := hP.hio.cell hv2
      have q3 : wr.cell? ⟨tb, k * 8 + 1, none⟩ = some v3 := hP.htx.cell hv3
      have f1 := hP.hso.free k
      have f2 := hP.hio.free k
      have f3 := hP.htx.free (k * 8 + 1)
      have hpos := hP.pos
      have n1 : sb ≠ w.heap.size + 3 := by omega
      have n2 : sb ≠ w.heap.size + 3 + 1 := by omega
      have n3 : tb ≠ w.heap.size + 3 := by omega
      have n4 : tb ≠ w.heap.size + 3 + 1 := by omega
      have hlt' : decide ((k : Int) < (n : Int)) = true := decide_eq_true (by omega)
      have HX := hide hx
      have HS1 := hide hs
      have HC := hide hc
      have HSN := hide hsn
      have HP := hide hP
      have HGd := hide hG
      have HV := hide hv1
      clear hx hs hc hsn hP hG hv1 hv2 hv3
      go_upto_region 12 with fail
      rw [hxs]
      clear hxs hcx hix
      go_upto_region 14 with fail
      go_cut [] (fun wc => P1 w wc tb sb n S Sv xs (Ls.set k (.int .i64 s)) (Li.set k (.int .i64 c)) (Lt.set (k * 8 + 1) (.int .i64 s)))
      case first =>
        go_wp2_with fail
        go_meet
        case rel => exact ((HP.out.setSo k _).setIo k _).setTx _ _
      case rest =>
      have hP1 := hcut
      clear hcut cs1 cm1 cm0 q1 q2 q3 f1 f2 f3
      have cs1 : wc.cell? ⟨sb, s, none⟩ = some (.slice sn c sg) := by have := hP1.fam.cell hsS; rw [HSN.out, ← HC.out] at this; exact this
      have cm1 : wc.cell? ⟨w.heap.size + 2, 1, none⟩ = some (.slice (some ⟨sb, 0, none⟩) S S) := hP1.com.cell rfl
      have cm0 : wc.cell? ⟨w.heap.size + 2, 0, none⟩ = some (.slice (some ⟨tb, 0, none⟩) n n) := hP1.com.cell rfl
      obtain ⟨v3, hv3⟩ : ∃ v, (Lt.set (k * 8 + 1) (.int .i64 s))[k * 8 + 2]? = some v := ⟨_, List.getElem?_eq_getElem (by rw [List.length_set, HGd.out.lt]; omega)⟩
      have q3 : wc.cell? ⟨tb, k * 8 + 2, none⟩ = some v3 := hP1.htx.cell hv3
      have f3 := hP1.htx.free (k * 8 + 2)
      have HP1 := hide hP1
      clear hP1 hv3
      go_upto_region 15 with fail
      go_cut [] (fun wc => P1 w wc tb sb n S Sv xs (Ls.set k (.int .i64 s)) (Li.set k (.int .i64 c)) ((Lt.set (k * 8 + 1) (.int .i64 s)).set (k * 8 + 2) (.int .i64 c)))
      case first =>
        go_region
        all_goals
          go_wp2_with fail
          go_meet
          case rel => first | exact (HP1.out.setTx _ _).drew | trace_state
      case rest =>
      have hP2 := hcut
      have hsz := hP2.size
      clear hcut cs1 cm1 cm0 q3 f3
      have cs1 : wc.cell? ⟨sb, s, none⟩ = some (Sv s) := hP2.fam.cell hsS
      have cm1 : wc.cell? ⟨w.heap.size + 2, 1, none⟩ = some (.slice (some ⟨sb, 0, none⟩) S S) := hP2.com.cell rfl
      obtain ⟨i0, hi, hz0, hz1, hz2⟩ := info_parts info3'
      obtain ⟨HO, HN, H1, HRR⟩ := pre16 (k := k) hP2 hsS HC.out
      have hb2 : w.heap.size + 2 < wc.heap.size := by omega
      have hbs : sb < wc.heap.size := by omega
      have HP2 := hide hP2
      clear hP2 HP1 HP
      go_upto_region 16 with fail
      go_region_law (refine step_append_lies _ rfl (.tmp 126) (.tmp 128) 22 rfl (w.heap.size + 5) 3 i0 (.int .i64 0) 1 8 Yba.underlying22 hi hz0 hz1 hz2 rfl (by decide) _ c _ rfl HO.out ⟨wc.heap.size, 0, none⟩ 1 1 _ rfl rfl HN.out H1.out (by omega) (by unfold maxLen; omega) (by omega) (by simp; omega) _ rfl ?_; intro g cap w1 hown1 hgrow1 hat1 hlt1; obtain ⟨c31, f31, c41⟩ := HRR.out w1 hgrow1; have HF := hide (after16 HP2.out hsS HC.out hown1 hgrow1 hat1 (Nat.le_refl _)))
      all_goals
        go_wp2
        go_roundg (n - (k + 1))
        case measure => have := HG.out; omega
        case rel =>
          obtain ⟨Sv', hF⟩ := HF.out
          exact ⟨k + 1, Sv', _, _, _, _, by omega, rfl, by go_num, hF, good_step HGd.out hlt hsS HS1.out HC.out _⟩
    · obtain rfl : k = n := by omega
      clear HI
      have hlt' : decide ((k : Int) < (k : Int)) = false := decide_eq_false (by omega)
      go_upto_region 17 with fail
      go_cut [16] (fun q wc => q = .int .i64 0 ∧ wc = wr)
      case first =>
        go_wp2_with fail
        go_meet
        case rel => exact ⟨rfl, rfl⟩
      case rest =>
      obtain ⟨rfl, rfl⟩ := hcut
      exact tail9 w _ _ (by assumption) a2 a3 k S lw c2 b2 o2 lc c3 b3 o3 tb sb wd cd sv Sv xs Ls Li Lt h2 R2 X2 t2 h3 R3 X3 t3 hn hlw hlc hS1 hS4 (hide fun a => by rw [HSV.out]; exact Nat.mod_lt _ (by omega)) hP hG
end Go.Proofs.Ybulkcsym
