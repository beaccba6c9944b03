/-
  OUR OWN. 'LawS4731CExact' (function 5): the longest session, the table of counts is made.
-/
import Derived.Test.YbulkcsymTail13
namespace Go.Proofs.Ybulkcsym
open Go.RowKit

set_option maxRecDepth 100000 in
set_option maxHeartbeats 4000000 in
theorem tail9 (w wr : World) (K : Act → World → Prop) (hK : ∀ a wx, (restOf Yba.f5.body 9).wp Yba.prog (bodyPost Yba.prog Yba.f5 fun e w' => e = .returned (.bool true) ∧ Below w.heap.size w w') a wx → K a wx)
    {u0 u1 u4 u5 u6 u7 u8 u14 u15 u17 u18 u19 u20 u21 u22 u23 u24 u25 u26 u27 u28 u29 u30 u31 u32 u33 u34 u35 u36 u37 u38 u39 u40 u41 u42 u43 u44 u45 u46 u47 u48 u49 u50 u51 u52 u53 u54 u55 u56 u57 u58 u59 u60 u61 u62 u63 u64 u65 u66 u67 u68 u69 u70 u71 u72 u73 u74 u75 u76 u77 u78 u79 u80 u81 u82 u83 u84 u85 u86 u87 u88 u89 u90 u91 u92 u93 u94 u95 u96 u97 u98 u99 u100 u101 u102 u103 u104 u105 u106 u107 u108 u109 u110 u111 u112 u113 u114 u115 u116 u117 u118 u119 u120 u121 u122 u123 u124 u125 u126 u127 u128 u129 u130 u131 u132 u133 u134 u135 u136 u137 u138 u139 u140 u141 u142 u143 u144 u145 u146 u147 u148 u149 u150 u151 u152 u153 u154 u155 u156 u157 u158 u159 u160 u161 u162 u163 u164 u165 u166 u167 u168 u169 u170 u171 u172 u173 u174 u175 u176 u177 u178 u179 u180 u181 u182 u183 u184 u185 u186 u187 u188 u189 u190 u191 u192 u193 u194 u195 u196 u197 u198 u199 u200 u201 u202 u203 u204 u205 u206 u207 u208 u209 u210 u211 u212 u213 u214 u215 u216 u217 u218 u219 u220 u221 u222 u223 u224 u225 u226 u227 u228 u229 u230 u231 u232 u233 u234 u235 u236 u237 u238 u239 u240 u241 u242 u243 u244 u245 u246 u247 u248 u249 u250 u251 u252 u253 u254 u255 u256 u257 u258 u259 u260 u261 u262 u263 u264 u265 u266 u267 u268 u269 u270 u271 u272 u273 u274 u275 u276 u277 u278 u279 u280 u281 u282 u283 u284 u285 u286 u287 u288 u289 u290 u291 u292 u293 u294 u295 u296 u297 u298 u299 u300 u301 u302 u303 u304 u305 u306 u307 u308 u309 u310 u311 u312 u313 u314 u315 u316 u317 u318 u319 u320 u321 u322 u323 u324 u325 u326 u327 u328 u329 u330 u331 u332 u333 u334 u335 u336 u337 u338 u339 u340 u341 u342 u343 u344 u345 u346 u347 u348 : Value} (a2 a3 : Option Addr) (k S lw c2 b2 o2 lc c3 b3 o3 tb sb : Nat) (wd cd : List Int) (sv : Nat → Nat) (Sv : Nat → Value) (xs : Nat → List Value) (Ls Li Lt : List Value)
    (h2 : 0 < lw → a2 = some ⟨b2, o2, none⟩) (R2 : Hid (∀ i, i < lw → 0 ≤ wd.getD i 0 ∧ wd.getD i 0 ≤ 255)) (X2 : Hid (∀ i, i < lw → w.cell? ⟨b2, o2 + i, none⟩ = some (.int .u8 (wd.getD i 0)))) (t2 : 0 < lw → b2 < w.heap.size)
    (h3 : 0 < lc → a3 = some ⟨b3, o3, none⟩) (R3 : Hid (∀ i, i < lc → 0 ≤ cd.getD i 0 ∧ cd.getD i 0 ≤ 255)) (X3 : Hid (∀ i, i < lc → w.cell? ⟨b3, o3 + i, none⟩ = some (.int .u8 (cd.getD i 0)))) (t3 : 0 < lc → b3 < w.heap.size)
    (hn : k ≤ 300) (hlw : lw ≤ 4096) (hlc : lc ≤ 4096) (hS1 : 1 ≤ S) (hS4 : S ≤ 4) (HSV : Hid (∀ a, sv a < S))
    (hP : P1 w wr tb sb k S Sv xs Ls Li Lt) (hG : Good sv k S k xs Ls Li Lt) :
    K { tmps := #[u0, u1, .slice a2 lw c2, .slice a3 lc c3, u4, u5, u6, u7, u8, .int .i64 k, .int .i64 S, .pointer (some ⟨w.heap.size + 2, 0, none⟩), .slice (some ⟨w.heap.size + 3, 0, none⟩) k k, .slice (some ⟨w.heap.size + 3 + 1, 0, none⟩) k k, u14, u15, .int .i64 0, u17, u18, u19, u20, u21, u22, u23, u24, u25, u26, u27, u28, u29, u30, u31, u32, u33, u34, u35, u36, u37, u38, u39, u40, u41, u42, u43, u44, u45, u46, u47, u48, u49, u50, u51, u52, u53, u54, u55, u56, u57, u58, u59, u60, u61, u62, u63, u64, u65, u66, u67, u68, u69, u70, u71, u72, u73, u74, u75, u76, u77, u78, u79, u80, u81, u82, u83, u84, u85, u86, u87, u88, u89, u90, u91, u92, u93, u94, u95, u96, u97, u98, u99, u100, u101, u102, u103, u104, u105, u106, u107, u108, u109, u110, u111, u112, u113, u114, u115, u116, u117, u118, u119, u120, u121, u122, u123, u124, u125, u126, u127, u128, u129, u130, u131, u132, u133, u134, u135, u136, u137, u138, u139, u140, u141, u142, u143, u144, u145, u146, u147, u148, u149, u150, u151, u152, u153, u154, u155, u156, u157, u158, u159, u160, u161, u162, u163, u164, u165, u166, u167, u168, u169, u170, u171, u172, u173, u174, u175, u176, u177, u178, u179, u180, u181, u182, u183, u184, u185, u186, u187, u188, u189, u190, u191, u192, u193, u194, u195, u196, u197, u198, u199, u200, u201, u202, u203, u204, u205, u206, u207, u208, u209, u210, u211, u212, u213, u214, u215, u216, u217, u218, u219, u220, u221, u222, u223, u224, u225, u226, u227, u228, u229, u230, u231, u232, u233, u234, u235, u236, u237, u238, u239, u240, u241, u242, u243, u244, u245, u246, u247, u248, u249, u250, u251, u252, u253, u254, u255, u256, u257, u258, u259, u260, u261, u262, u263, u264, u265, u266, u267, u268, u269, u270, u271, u272, u273, u274, u275, u276, u277, u278, u279, u280, u281, u282, u283, u284, u285, u286, u287, u288, u289, u290, u291, u292, u293, u294, u295, u296, u297, u298, u299, u300, u301, u302, u303, u304, u305, u306, u307, u308, u309, u310, u311, u312, u313, u314, u315, u316, u317, u318, u319, u320, u321, u322, u323, u324, u325, u326, u327, u328, u329, u330, u331, u332, u333, u334, u335, u336, u337, u338, u339, u340, u341, u342, u343, u344, u345, u346, u347, u348], defers := [] } wr := by
  refine hK _ _ ?_
  refine wp_seq_of (show restOf Yba.f5.body 9 = Code.seq _ _ from rfl) ?_
  go_wp2
  go_loop [16, 17] (fun l i => ∃ (q L : Nat), q ≤ S ∧ L ≤ 300 ∧ i = .int .i64 q ∧ l = .int .i64 L) (fun _ i => S - (intOf i).toNat)
  case atStart => exact ⟨0, 0, Nat.zero_le _, Nat.zero_le _, rfl, rfl⟩
  case round =>
    obtain ⟨q, L, hq, hL, rfl, rfl⟩ := hrel
    by_cases hqS : q < S
    · obtain ⟨c, hc⟩ : ∃ c, c = (xs q).length := ⟨_, rfl⟩
      have hc3 : c ≤ 300 := by rw [hc, hG.len q hqS]; have := cs_le sv q k; omega
      obtain ⟨sn, sg, hsn, _⟩ := ownsRow_slice (hP.fam.rows q hqS)
      have cs1 : wr.cell? ⟨sb, q, none⟩ = some (.slice sn c sg) := by rw [hc, ← hsn]; exact hP.fam.cell hqS
      have cm1 : wr.cell? ⟨w.heap.size + 2, 1, none⟩ = some (.slice (some ⟨sb, 0, none⟩) S S) := hP.com.cell rfl
      have hq' : decide ((q : Int) < (S : Int)) = true := decide_eq_true (by omega)
      have HSN := hide hsn
      have HC := hide hc
      clear hsn hc
      by_cases hLc : L < c
      · have hLc' : decide ((L : Int) < (c : Int)) = true := decide_eq_true (by omega)
        go_wp2
        go_round
        case rel => exact ⟨q + 1, c, by omega, hc3, by go_num, rfl⟩
        case measure => simp [intOf]; omega
      · have hLc' : decide ((L : Int) < (c : Int)) = false := decide_eq_false (by omega)
        go_wp2
        go_round
        case rel => exact ⟨q + 1, L, by omega, hL, by go_num, rfl⟩
        case measure => simp [intOf]; omega
    · have hq' : decide ((q : Int) < (S : Int)) = false := decide_eq_false (by omega)
      obtain ⟨W, hW⟩ : ∃ W, W = max (Lib.bitLen L) 1 := ⟨_, rfl⟩
      have hW9 : W ≤ 9 := by rw [hW]; exact (width_ok L (by omega)).1
      have hLW : L < 2 ^ W := by rw [hW]; exact (width_ok L (by omega)).2
      have hW1 : 1 ≤ W := by rw [hW]; exact Nat.le_max_right _ _
      have HN := hide (newCounts k S L W (64 / W) hn hS4 hS1 (by rw [hW]; omega) hW1 hW9 rfl hL wr)
      have HM := hide fun w => run_make_row' (P := Yba.prog) 22 3 (.int .i64 0) 8 Yba.underlying22 info3' rfl .i64 .i64 (k * S) (by have : k * S ≤ 300 * 4 := Nat.mul_le_mul hn hS4; omega) (by have : k * S ≤ 300 * 4 := Nat.mul_le_mul hn hS4; omega) w
      have HLW := hide hLW
      have HWW := hide hW
      clear hW hLW
      go_wp2_with fail
      refine HN.out.mono ?_
      rintro e w1 ⟨rfl, hb1, hz1, hBw, tops, hBp⟩
      have hpc : w1.cell? ⟨wr.heap.size, 9, none⟩ = some (.pointer none) := hBp.cell rfl
      have hpf := hBp.free 9
      have HP2 := hide fun A => hP.p2 (W := W) (tops := tops) hb1 hz1 hBw hBp A
      have hmk := HM.out
      have hkS : (k : Int) * (S : Int) = ((k * S : Nat) : Int) := by push_cast; rfl
      have hkS2 : k * S ≤ 1200 := Nat.le_trans (Nat.mul_le_mul hn hS4) (by omega)
      obtain ⟨N, hN⟩ : ∃ N, k * S = N := ⟨_, rfl⟩
      rw [hN] at hmk hkS hkS2
      have HNN := hide hN
      clear hBw hBp hN
      go_upto_region 25 with fail
      go_cut [19] (fun q wc => q = .slice (some ⟨wr.heap.size + 2, 0, none⟩) N N ∧ P2 w wc tb sb k S wr.heap.size W tops Ls Li Lt (madeCells #[.int .i64 0] N).toList (madeCells #[.int .u64 0] k).toList)
      case first =>
        go_wp2_with fail
        go_meet
        case rel => exact ⟨rfl, HP2.out (madeCells #[.int .i64 0] N)⟩
      case rest =>
      obtain ⟨rfl, hS2⟩ := hcut
      exact tail13 w wc _ (by assumption) a2 a3 k S N lw c2 b2 o2 lc c3 b3 o3 tb sb wr.heap.size W L tops wd cd sv (vv cd lc S L) xs Ls Li Lt h2 R2 X2 t2 h3 R3 X3 t3 hn hlw hlc hS1 hS4 hL hW1 hW9 hkS2 HNN HSV (hide hG) (hide rfl) HLW hS2
end Go.Proofs.Ybulkcsym
