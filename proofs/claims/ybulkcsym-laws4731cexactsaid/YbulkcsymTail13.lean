/-
  OUR OWN. 'LawS4731CExact' (function 5): the table of counts is filled.
-/
import Derived.Test.YbulkcsymTail15
namespace Go.Proofs.Ybulkcsym
open Go.RowKit

set_option maxRecDepth 100000 in
set_option maxHeartbeats 4000000 in
theorem tail13 (w w2 : World) (K : Act → World → Prop) (hK : ∀ a wx, (restOf Yba.f5.body 13).wp Yba.prog (bodyPost Yba.prog Yba.f5 fun e w' => e = .returned (.bool true) ∧ Below w.heap.size w w') a wx → K a wx)
    {u0 u1 u4 u5 u6 u7 u8 u14 u15 u17 u20 u21 u22 u23 u24 u25 u26 u27 u28 u29 u30 u31 u32 u33 u34 u35 u36 u37 u38 u39 u40 u41 u42 u43 u44 u45 u46 u47 u48 u49 u50 u51 u52 u53 u54 u55 u56 u57 u58 u59 u60 u61 u62 u63 u64 u65 u66 u67 u68 u69 u70 u71 u72 u73 u74 u75 u76 u77 u78 u79 u80 u81 u82 u83 u84 u85 u86 u87 u88 u89 u90 u91 u92 u93 u94 u95 u96 u97 u98 u99 u100 u101 u102 u103 u104 u105 u106 u107 u108 u109 u110 u111 u112 u113 u114 u115 u116 u117 u118 u119 u120 u121 u122 u123 u124 u125 u126 u127 u128 u129 u130 u131 u132 u133 u134 u135 u136 u137 u138 u139 u140 u141 u142 u143 u144 u145 u146 u147 u148 u149 u150 u151 u152 u153 u154 u155 u156 u157 u158 u159 u160 u161 u162 u163 u164 u165 u166 u167 u168 u169 u170 u171 u172 u173 u174 u175 u176 u177 u178 u179 u180 u181 u182 u183 u184 u185 u186 u187 u188 u189 u190 u191 u192 u193 u194 u195 u196 u197 u198 u199 u200 u201 u202 u203 u204 u205 u206 u207 u208 u209 u210 u211 u212 u213 u214 u215 u216 u217 u218 u219 u220 u221 u222 u223 u224 u225 u226 u227 u228 u229 u230 u231 u232 u233 u234 u235 u236 u237 u238 u239 u240 u241 u242 u243 u244 u245 u246 u247 u248 u249 u250 u251 u252 u253 u254 u255 u256 u257 u258 u259 u260 u261 u262 u263 u264 u265 u266 u267 u268 u269 u270 u271 u272 u273 u274 u275 u276 u277 u278 u279 u280 u281 u282 u283 u284 u285 u286 u287 u288 u289 u290 u291 u292 u293 u294 u295 u296 u297 u298 u299 u300 u301 u302 u303 u304 u305 u306 u307 u308 u309 u310 u311 u312 u313 u314 u315 u316 u317 u318 u319 u320 u321 u322 u323 u324 u325 u326 u327 u328 u329 u330 u331 u332 u333 u334 u335 u336 u337 u338 u339 u340 u341 u342 u343 u344 u345 u346 u347 u348 : Value} (a2 a3 : Option Addr) (k S N lw c2 b2 o2 lc c3 b3 o3 tb sb pb W L : Nat) (tops : Int) (wd cd : List Int) (sv : Nat → Nat) (v : Nat → Nat → Nat) (xs0 : Nat → List Value) (Ls Li Lt : List Value)
    (h2 : 0 < lw → a2 = some ⟨b2, o2, none⟩) (R2 : Hid (∀ i, i < lw → 0 ≤ wd.getD i 0 ∧ wd.getD i 0 ≤ 255)) (X2 : Hid (∀ i, i < lw → w.cell? ⟨b2, o2 + i, none⟩ = some (.int .u8 (wd.getD i 0)))) (t2 : 0 < lw → b2 < w.heap.size)
    (h3 : 0 < lc → a3 = some ⟨b3, o3, none⟩) (R3 : Hid (∀ i, i < lc → 0 ≤ cd.getD i 0 ∧ cd.getD i 0 ≤ 255)) (X3 : Hid (∀ i, i < lc → w.cell? ⟨b3, o3 + i, none⟩ = some (.int .u8 (cd.getD i 0)))) (t3 : 0 < lc → b3 < w.heap.size)
    (hn : k ≤ 300) (hlw : lw ≤ 4096) (hlc : lc ≤ 4096) (hS1 : 1 ≤ S) (hS4 : S ≤ 4) (hL : L ≤ 300) (hW1 : 1 ≤ W) (hW9 : W ≤ 9) (hkS2 : N ≤ 1200) (HNN : Hid (k * S = N)) (HSV : Hid (∀ a, sv a < S))
    (HGd : Hid (Good sv k S k xs0 Ls Li Lt)) (HV : Hid (v = vv cd lc S L)) (HLW : Hid (L < 2 ^ W))
    (hS2 : P2 w w2 tb sb k S pb W tops Ls Li Lt (madeCells #[.int .i64 0] N).toList (madeCells #[.int .u64 0] k).toList) :
    K { tmps := #[u0, u1, .slice a2 lw c2, .slice a3 lc c3, u4, u5, u6, u7, u8, .int .i64 k, .int .i64 S, .pointer (some ⟨w.heap.size + 2, 0, none⟩), .slice (some ⟨w.heap.size + 3, 0, none⟩) k k, .slice (some ⟨w.heap.size + 3 + 1, 0, none⟩) k k, u14, u15, .int .i64 L, u17, .pointer (some ⟨pb, 0, none⟩), .slice (some ⟨pb + 2, 0, none⟩) N N, u20, u21, u22, u23, u24, u25, u26, u27, u28, u29, u30, u31, u32, u33, u34, u35, u36, u37, u38, u39, u40, u41, u42, u43, u44, u45, u46, u47, u48, u49, u50, u51, u52, u53, u54, u55, u56, u57, u58, u59, u60, u61, u62, u63, u64, u65, u66, u67, u68, u69, u70, u71, u72, u73, u74, u75, u76, u77, u78, u79, u80, u81, u82, u83, u84, u85, u86, u87, u88, u89, u90, u91, u92, u93, u94, u95, u96, u97, u98, u99, u100, u101, u102, u103, u104, u105, u106, u107, u108, u109, u110, u111, u112, u113, u114, u115, u116, u117, u118, u119, u120, u121, u122, u123, u124, u125, u126, u127, u128, u129, u130, u131, u132, u133, u134, u135, u136, u137, u138, u139, u140, u141, u142, u143, u144, u145, u146, u147, u148, u149, u150, u151, u152, u153, u154, u155, u156, u157, u158, u159, u160, u161, u162, u163, u164, u165, u166, u167, u168, u169, u170, u171, u172, u173, u174, u175, u176, u177, u178, u179, u180, u181, u182, u183, u184, u185, u186, u187, u188, u189, u190, u191, u192, u193, u194, u195, u196, u197, u198, u199, u200, u201, u202, u203, u204, u205, u206, u207, u208, u209, u210, u211, u212, u213, u214, u215, u216, u217, u218, u219, u220, u221, u222, u223, u224, u225, u226, u227, u228, u229, u230, u231, u232, u233, u234, u235, u236, u237, u238, u239, u240, u241, u242, u243, u244, u245, u246, u247, u248, u249, u250, u251, u252, u253, u254, u255, u256, u257, u258, u259, u260, u261, u262, u263, u264, u265, u266, u267, u268, u269, u270, u271, u272, u273, u274, u275, u276, u277, u278, u279, u280, u281, u282, u283, u284, u285, u286, u287, u288, u289, u290, u291, u292, u293, u294, u295, u296, u297, u298, u299, u300, u301, u302, u303, u304, u305, u306, u307, u308, u309, u310, u311, u312, u313, u314, u315, u316, u317, u318, u319, u320, u321, u322, u323, u324, u325, u326, u327, u328, u329, u330, u331, u332, u333, u334, u335, u336, u337, u338, u339, u340, u341, u342, u343, u344, u345, u346, u347, u348], defers := [] } w2 := by
  refine hK _ _ ?_
  refine wp_seq_of (show restOf Yba.f5.body 13 = Code.seq _ _ from rfl) ?_
  have HVL : Hid (∀ b s, v b s ≤ L) := fun b s => by rw [HV.out]; exact vv_le cd lc S L b s
  have hT2 : Tab W v k S 0 0 (madeCells #[.int .i64 0] N).toList (madeCells #[.int .u64 0] k).toList := by rw [← HNN.out]; exact Tab.start W v k S
  go_wp2
  go_loopw [20] (fun i wq => ∃ (b : Nat) (Lm Lw : List Value), b ≤ k ∧ i = .int .i64 b ∧ P2 w wq tb sb k S pb W tops Ls Li Lt Lm Lw ∧ Tab W v k S b 0 Lm Lw) (fun i _ => k - (intOf i).toNat)
  case atStart => exact ⟨0, _, _, Nat.zero_le _, rfl, hS2, hT2⟩
  case round =>
    clear hS2 hT2
    obtain ⟨b, Lm, Lw, hbk, rfl, hS3, hT3⟩ := hrel
    by_cases hb : b < k
    · have hb' : decide ((b : Int) < (k : Int)) = true := decide_eq_true (by omega)
      go_wp2
      go_loopw [21] (fun i wq => ∃ (t : Nat) (Lm Lw : List Value), t ≤ S ∧ i = .int .i64 t ∧ P2 w wq tb sb k S pb W tops Ls Li Lt Lm Lw ∧ Tab W v k S b t Lm Lw) (fun i _ => S - (intOf i).toNat)
      case atStart => exact ⟨0, _, _, Nat.zero_le _, rfl, hS3, hT3⟩
      case round =>
        clear hS3 hT3 Lm Lw
        obtain ⟨t, Lm, Lw, htS, rfl, hS3, hT3⟩ := hrel
        by_cases ht : t < S
        · have ht' : decide ((t : Int) < (S : Int)) = true := decide_eq_true (by omega)
          obtain ⟨Q, hQ⟩ : ∃ Q, b * S = Q := ⟨_, rfl⟩
          have hbS : (b : Int) * (S : Int) = (Q : Nat) := by rw [← hQ]; push_cast; rfl
          have hQt : Q + t < N := by rw [← HNN.out, ← hQ]; have : (b + 1) * S ≤ k * S := Nat.mul_le_mul_right _ hb; rw [Nat.add_mul] at this; omega
          have hQt' : (Q : Int) + (t : Int) < (N : Int) := by omega
          obtain ⟨vl, hvl⟩ : ∃ vl, vl = v b t := ⟨_, rfl⟩
          have hvl3 : vl ≤ 300 := by rw [hvl]; have := HVL.out b t; omega
          obtain ⟨om, hom⟩ : ∃ om, Lm[Q + t]? = some om := ⟨_, List.getElem?_eq_getElem (by rw [hT3.lm, HNN.out]; exact hQt)⟩
          have qm : wr.cell? ⟨pb + 2, Q + t, none⟩ = some om := hS3.hm.cell hom
          have fm := hS3.hm.free (Q + t)
          have HT4 : Hid (Tab W v k S b (t + 1) (Lm.set (Q + t) (.int .i64 vl)) (Lw.set b (.int .u64 (word W (v b) (t + 1) : Nat)))) := by rw [hvl, ← hQ]; exact hT3.step hb ht
          have HRS : Hid (∀ wq, P2 w wq tb sb k S pb W tops Ls Li Lt (Lm.set (Q + t) (.int .i64 vl)) Lw → Calls Yba.prog 14 #[.pointer (some ⟨pb, 0, none⟩), .int .i64 b, .int .i64 t, .int .i64 vl] wq fun e w' => e = .returned (.tuple #[]) ∧ P2 w w' tb sb k S pb W tops Ls Li Lt (Lm.set (Q + t) (.int .i64 vl)) (Lw.set b (.int .u64 (word W (v b) (t + 1) : Nat)))) := by
            intro wq hq
            rw [hvl] at hq ⊢
            exact hq.raise hT3 (by omega) hS4 hb ht hn (fun s => Nat.lt_of_le_of_lt (HVL.out b s) HLW.out) (by rw [← hvl]; exact hvl3)
          have hS4a := hS3.setM (Q + t) (.int .i64 vl)
          have HQ := hide hQ
          have HVV := hide hvl
          clear hQ hvl hom hT3
          by_cases hJ : Q + t < lc
          · have hJ' : decide ((Q : Int) + (t : Int) < (lc : Int)) = true := decide_eq_true (by omega)
            obtain ⟨x, hx⟩ : ∃ x, x = cd.getD (Q + t) 0 := ⟨_, rfl⟩
            have hcx : wr.cell? ⟨b3, o3 + (Q + t), none⟩ = some (.int .u8 x) := by rw [hx]; exact (hS3.below.cell (t3 (by omega))).trans (X3.out _ hJ)
            have hix := index_slice Yba.underlying50 size5 h3 c3 hJ
            simp only [Int.natCast_add] at hix
            have hx0 : 0 ≤ x := by rw [hx]; exact (R3.out _ hJ).1
            have hx1 : x ≤ 255 := by rw [hx]; exact (R3.out _ hJ).2
            have hxv : x % ((L : Int) + 1) = (vl : Nat) := by
              rw [HVV.out, HV.out, vv, HQ.out, if_pos hJ, ← hx, Int.natCast_emod, Int.toNat_of_nonneg hx0]
              push_cast
              rfl
            have HX := hide hx
            clear hx hS3
            go_wp2_with fail
            refine (HRS.out _ hS4a).mono ?_
            rintro e w2 ⟨rfl, hS5⟩
            go_wp2
            go_roundw
            case rel => exact ⟨t + 1, _, _, by omega, by go_num, hS5, HT4.out⟩
            case measure => simp [intOf]; omega
          · have hJ' : decide ((Q : Int) + (t : Int) < (lc : Int)) = false := decide_eq_false (by omega)
            have hv0 : vl = 0 := by rw [HVV.out, HV.out, vv, HQ.out, if_neg hJ]
            subst hv0
            clear hS3
            go_wp2_with fail
            refine (HRS.out _ hS4a).mono ?_
            rintro e w2 ⟨rfl, hS5⟩
            go_wp2
            go_roundw
            case rel => exact ⟨t + 1, _, _, by omega, by go_num, hS5, HT4.out⟩
            case measure => simp [intOf]; omega
        · obtain rfl : t = S := by omega
          go_wp2
          go_roundw
          case rel => exact ⟨b + 1, _, _, by omega, by go_num, hS3, hT3.next⟩
          case measure => simp [intOf]; omega
    · obtain rfl : b = k := by omega
      have hmk4 : ∀ w, (Instr.makeSlice 25 (.int .i64 4) (.int .i64 4)).run Yba.prog w = .ok (.slice (some ⟨w.heap.size, 0, none⟩) 4 4) (w.alloc (.cells #[.slice none 0 0, .slice none 0 0, .slice none 0 0, .slice none 0 0] 22)) := fun _ => by kernel_rfl
      have HT := hide hT3
      go_upto_region 38 with fail
      go_cut [24] (fun q wc => ∃ kb, q = .slice (some ⟨kb, 0, none⟩) 4 4 ∧ P3 w wc tb sb b S pb W tops Ls Li Lt Lm Lw kb (fun _ => .slice none 0 0) (XS wd lw b 0 0))
      case first =>
        go_wp2_with fail
        go_meet
        case rel => exact ⟨_, rfl, hS3.p3 wd lw⟩
      case rest =>
      obtain ⟨kb, rfl, hQ0⟩ := hcut
      exact tail15 w wc _ (by assumption) a2 b S N lw c2 b2 o2 tb sb pb W kb L tops wd sv v xs0 Ls Li Lt Lm Lw _ h2 R2 X2 t2 hn hlw hS4 hL hW1 hW9 HNN HSV HGd HT HVL HLW hQ0
end Go.Proofs.Ybulkcsym
