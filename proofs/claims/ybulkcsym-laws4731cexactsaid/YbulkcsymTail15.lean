/-
  OUR OWN. 'LawS4731CExact' (function 5): the writers of each key.
-/
import Derived.Test.YbulkcsymTail17
namespace Go.Proofs.Ybulkcsym
open Go.RowKit

set_option maxRecDepth 100000 in
set_option maxHeartbeats 4000000 in
theorem tail15 (w w3 : World) (K : Act → World → Prop) (hK : ∀ a wx, (restOf Yba.f5.body 15).wp Yba.prog (bodyPost Yba.prog Yba.f5 fun e w' => e = .returned (.bool true) ∧ Below w.heap.size w w') a wx → K a wx)
    {u0 u1 u3 u4 u5 u6 u7 u8 u14 u15 u16 u17 u20 u21 u22 u23 u25 u26 u27 u28 u29 u30 u31 u32 u33 u34 u35 u36 u37 u38 u39 u40 u41 u42 u43 u44 u45 u46 u47 u48 u49 u50 u51 u52 u53 u54 u55 u56 u57 u58 u59 u60 u61 u62 u63 u64 u65 u66 u67 u68 u69 u70 u71 u72 u73 u74 u75 u76 u77 u78 u79 u80 u81 u82 u83 u84 u85 u86 u87 u88 u89 u90 u91 u92 u93 u94 u95 u96 u97 u98 u99 u100 u101 u102 u103 u104 u105 u106 u107 u108 u109 u110 u111 u112 u113 u114 u115 u116 u117 u118 u119 u120 u121 u122 u123 u124 u125 u126 u127 u128 u129 u130 u131 u132 u133 u134 u135 u136 u137 u138 u139 u140 u141 u142 u143 u144 u145 u146 u147 u148 u149 u150 u151 u152 u153 u154 u155 u156 u157 u158 u159 u160 u161 u162 u163 u164 u165 u166 u167 u168 u169 u170 u171 u172 u173 u174 u175 u176 u177 u178 u179 u180 u181 u182 u183 u184 u185 u186 u187 u188 u189 u190 u191 u192 u193 u194 u195 u196 u197 u198 u199 u200 u201 u202 u203 u204 u205 u206 u207 u208 u209 u210 u211 u212 u213 u214 u215 u216 u217 u218 u219 u220 u221 u222 u223 u224 u225 u226 u227 u228 u229 u230 u231 u232 u233 u234 u235 u236 u237 u238 u239 u240 u241 u242 u243 u244 u245 u246 u247 u248 u249 u250 u251 u252 u253 u254 u255 u256 u257 u258 u259 u260 u261 u262 u263 u264 u265 u266 u267 u268 u269 u270 u271 u272 u273 u274 u275 u276 u277 u278 u279 u280 u281 u282 u283 u284 u285 u286 u287 u288 u289 u290 u291 u292 u293 u294 u295 u296 u297 u298 u299 u300 u301 u302 u303 u304 u305 u306 u307 u308 u309 u310 u311 u312 u313 u314 u315 u316 u317 u318 u319 u320 u321 u322 u323 u324 u325 u326 u327 u328 u329 u330 u331 u332 u333 u334 u335 u336 u337 u338 u339 u340 u341 u342 u343 u344 u345 u346 u347 u348 : Value} (a2 : Option Addr) (b S N lw c2 b2 o2 tb sb pb W kb L : Nat) (tops : Int) (wd : List Int) (sv : Nat → Nat) (v : Nat → Nat → Nat) (xs0 : Nat → List Value) (Ls Li Lt Lm Lw : List Value) (V : Nat → Value)
    (h2 : 0 < lw → a2 = some ⟨b2, o2, none⟩) (R2 : Hid (∀ i, i < lw → 0 ≤ wd.getD i 0 ∧ wd.getD i 0 ≤ 255)) (X2 : Hid (∀ i, i < lw → w.cell? ⟨b2, o2 + i, none⟩ = some (.int .u8 (wd.getD i 0)))) (t2 : 0 < lw → b2 < w.heap.size)
    (hn : b ≤ 300) (hlw : lw ≤ 4096) (hS4 : S ≤ 4) (hL : L ≤ 300) (hW1 : 1 ≤ W) (hW9 : W ≤ 9) (HNN : Hid (b * S = N)) (HSV : Hid (∀ a, sv a < S))
    (HGd : Hid (Good sv b S b xs0 Ls Li Lt)) (HT : Hid (Tab W v b S b 0 Lm Lw)) (HVL : Hid (∀ b s, v b s ≤ L)) (HLW : Hid (L < 2 ^ W))
    (hQ0 : P3 w w3 tb sb b S pb W tops Ls Li Lt Lm Lw kb V (XS wd lw b 0 0)) :
    K { tmps := #[u0, u1, .slice a2 lw c2, u3, u4, u5, u6, u7, u8, .int .i64 b, .int .i64 S, .pointer (some ⟨w.heap.size + 2, 0, none⟩), .slice (some ⟨w.heap.size + 3, 0, none⟩) b b, .slice (some ⟨w.heap.size + 3 + 1, 0, none⟩) b b, u14, u15, u16, u17, .pointer (some ⟨pb, 0, none⟩), .slice (some ⟨pb + 2, 0, none⟩) N N, u20, u21, u22, u23, .slice (some ⟨kb, 0, none⟩) 4 4, u25, u26, u27, u28, u29, u30, u31, u32, u33, u34, u35, u36, u37, u38, u39, u40, u41, u42, u43, u44, u45, u46, u47, u48, u49, u50, u51, u52, u53, u54, u55, u56, u57, u58, u59, u60, u61, u62, u63, u64, u65, u66, u67, u68, u69, u70, u71, u72, u73, u74, u75, u76, u77, u78, u79, u80, u81, u82, u83, u84, u85, u86, u87, u88, u89, u90, u91, u92, u93, u94, u95, u96, u97, u98, u99, u100, u101, u102, u103, u104, u105, u106, u107, u108, u109, u110, u111, u112, u113, u114, u115, u116, u117, u118, u119, u120, u121, u122, u123, u124, u125, u126, u127, u128, u129, u130, u131, u132, u133, u134, u135, u136, u137, u138, u139, u140, u141, u142, u143, u144, u145, u146, u147, u148, u149, u150, u151, u152, u153, u154, u155, u156, u157, u158, u159, u160, u161, u162, u163, u164, u165, u166, u167, u168, u169, u170, u171, u172, u173, u174, u175, u176, u177, u178, u179, u180, u181, u182, u183, u184, u185, u186, u187, u188, u189, u190, u191, u192, u193, u194, u195, u196, u197, u198, u199, u200, u201, u202, u203, u204, u205, u206, u207, u208, u209, u210, u211, u212, u213, u214, u215, u216, u217, u218, u219, u220, u221, u222, u223, u224, u225, u226, u227, u228, u229, u230, u231, u232, u233, u234, u235, u236, u237, u238, u239, u240, u241, u242, u243, u244, u245, u246, u247, u248, u249, u250, u251, u252, u253, u254, u255, u256, u257, u258, u259, u260, u261, u262, u263, u264, u265, u266, u267, u268, u269, u270, u271, u272, u273, u274, u275, u276, u277, u278, u279, u280, u281, u282, u283, u284, u285, u286, u287, u288, u289, u290, u291, u292, u293, u294, u295, u296, u297, u298, u299, u300, u301, u302, u303, u304, u305, u306, u307, u308, u309, u310, u311, u312, u313, u314, u315, u316, u317, u318, u319, u320, u321, u322, u323, u324, u325, u326, u327, u328, u329, u330, u331, u332, u333, u334, u335, u336, u337, u338, u339, u340, u341, u342, u343, u344, u345, u346, u347, u348], defers := [] } w3 := by
  refine hK _ _ ?_
  refine wp_seq_of (show restOf Yba.f5.body 15 = Code.seq _ _ from rfl) ?_
  go_wp2
  go_loopw [25] (fun i wq => ∃ (κ : Nat) (V : Nat → Value), κ ≤ 4 ∧ i = .int .i64 κ ∧ P3 w wq tb sb b S pb W tops Ls Li Lt Lm Lw kb V (XS wd lw b κ 0)) (fun i _ => 4 - (intOf i).toNat)
  case atStart => exact ⟨0, _, Nat.zero_le _, rfl, hQ0⟩
  case round =>
    clear hQ0
    obtain ⟨κ, V, hκ, rfl, hQ1⟩ := hrel
    by_cases hκ4 : κ < 4
    · have hκ' : decide ((κ : Int) < 4) = true := decide_eq_true (by omega)
      go_wp2
      go_loopw [26] (fun i wq => ∃ (t : Nat) (V : Nat → Value), t ≤ b ∧ i = .int .i64 t ∧ P3 w wq tb sb b S pb W tops Ls Li Lt Lm Lw kb V (XS wd lw b κ t)) (fun i _ => b - (intOf i).toNat)
      case atStart => exact ⟨0, _, Nat.zero_le _, rfl, hQ1⟩
      case round =>
        clear hQ1 V
        obtain ⟨t, V, htb, rfl, hQ2⟩ := hrel
        by_cases ht : t < b
        · have ht' : decide ((t : Int) < (b : Int)) = true := decide_eq_true (by omega)
          have hκs : (κ : Int) ≤ 8 := by omega
          by_cases hJ : t < lw
          · have hJ' : decide ((t : Int) < (lw : Int)) = true := decide_eq_true (by omega)
            obtain ⟨x, hx⟩ : ∃ x, x = wd.getD t 0 := ⟨_, rfl⟩
            have hcx : wr.cell? ⟨b2, o2 + t, none⟩ = some (.int .u8 x) := by rw [hx]; exact (hQ2.p2.below.cell (t2 (by omega))).trans (X2.out _ hJ)
            have hix := index_slice Yba.underlying50 size5 h2 c2 hJ
            have hx0 : 0 ≤ x := by rw [hx]; exact (R2.out _ hJ).1
            have hx1 : x ≤ 255 := by rw [hx]; exact (R2.out _ hJ).2
            by_cases hbt : bt x κ = true
            · have hbt' : (bits BinOp.and .u8 (x / 2 ^ κ) 1 == 1) = true := hbt
              have HE : Hid (XS wd lw b κ (t + 1) = fun j => if j = κ then XS wd lw b κ t κ ++ [.int .i64 (t : Int)] else XS wd lw b κ t j) := by
                refine XS_in ?_
                rw [← hx, hbt, decide_eq_true hJ]
                rfl
              obtain ⟨c, hc⟩ : ∃ c, c = (XS wd lw b κ t κ).length := ⟨_, rfl⟩
              have hc3 : c ≤ 300 := by rw [hc]; simp only [XS, pg_self, List.length_map]; exact Nat.le_trans (wl_le _ _ _ _) (by omega)
              have ck : wr.cell? ⟨kb, κ, none⟩ = some (V κ) := hQ2.fam.cell hκ4
              obtain ⟨i0, hi, hz0, hz1, hz2⟩ := info_parts info3'
              obtain ⟨HO, HNW, H1, HRR⟩ := pre46 (t := t) hQ2 hκ4 hc
              have hkl : kb < wr.heap.size := hQ2.fam.hdr.lt
              have HC := hide hc
              have HQ2 := hide hQ2
              have HX := hide hx
              clear hc hQ2 hx hbt
              go_wp2_with (at_builtin; refine wpList_append_lies _ rfl (.tmp 236) (.tmp 238) 22 rfl (kb + 1) 3 i0 (.int .i64 0) 1 8 Yba.underlying22 hi hz0 hz1 hz2 rfl (by decide) _ c _ rfl HO.out ⟨wr.heap.size, 0, none⟩ 1 1 _ rfl rfl HNW.out H1.out (by omega) (by unfold maxLen; omega) (by omega) (by simp; omega) _ rfl ?_; intro g cap w1 hown1 hgrow1 hat1 hlt1; obtain ⟨c31, f31⟩ := HRR.out w1 hgrow1)
              go_roundw
              case rel =>
                obtain ⟨V', hV⟩ := after46 HQ2.out hκ4 HC.out hown1 hgrow1 hat1 (Nat.le_refl _)
                exact ⟨t + 1, V', by omega, by go_num, by rw [HE.out]; exact hV⟩
              case measure => simp [intOf]; omega
            · have hbt1 : bt x κ = false := by simpa using hbt
              have hbt' : (bits BinOp.and .u8 (x / 2 ^ κ) 1 == 1) = false := hbt1
              have HE : Hid (XS wd lw b κ (t + 1) = XS wd lw b κ t) := by
                refine XS_out ?_
                rw [← hx, hbt1, Bool.and_false]
              have HX := hide hx
              clear hx hbt hbt1
              go_wp2
              go_roundw
              case rel => exact ⟨t + 1, V, by omega, by go_num, by rw [HE.out]; exact hQ2⟩
              case measure => simp [intOf]; omega
          · have hJ' : decide ((t : Int) < (lw : Int)) = false := decide_eq_false (by omega)
            have HE : Hid (XS wd lw b κ (t + 1) = XS wd lw b κ t) := by
              refine XS_out ?_
              rw [decide_eq_false hJ, Bool.false_and]
            go_wp2
            go_roundw
            case rel => exact ⟨t + 1, V, by omega, by go_num, by rw [HE.out]; exact hQ2⟩
            case measure => simp [intOf]; omega
        · obtain rfl : t = b := by omega
          go_wp2
          go_roundw
          case rel => exact ⟨κ + 1, V, by omega, by go_num, by rw [XS_next]; exact hQ2⟩
          case measure => simp [intOf]; omega
    · obtain rfl : κ = 4 := by omega
      clear X2 R2 h2 t2
      have HQ := hide hQ1
      clear hQ1
      go_upto_region 47 with fail
      go_cut [27] (fun o wc => ∃ ob ixb, o = .pointer (some ⟨ob, 0, none⟩) ∧ P3 w wc tb sb b S pb W tops Ls Li Lt Lm Lw kb V (XS wd lw b 4 0) ∧ wc.cell? ⟨ob, 1, none⟩ = some (.pointer (some ⟨ixb, 0, none⟩)) ∧ wc.cell? ⟨ixb, 4, none⟩ = some (.slice (some ⟨kb, 0, none⟩) 4 4) ∧ ob < wc.heap.size ∧ ixb < wc.heap.size)
      case first =>
        go_wp2_with fail
        go_meet
        case rel =>
          refine ⟨wr.heap.size + 1, wr.heap.size, rfl, HQ.out.later (((Below.refl _ _).alloc (Nat.le_refl _) _).alloc (by simp) _), ?_, ((Blk.made wr _ 80).alloc _).cell rfl, by simp, by simp; omega⟩
          have h := fun A B => Blk.made (wr.alloc A) B 88
          simp only [World.size_alloc] at h
          exact (h _ _).cell rfl
      case rest =>
      obtain ⟨ob, ixb, rfl, hQ3, ho1, hx4, hob, hixb⟩ := hcut
      have hsvS := HSV.out
      obtain ⟨ws, hws⟩ : ∃ ws : Nat → List Nat, ws = fun k => wl wd lw k b := ⟨_, rfl⟩
      obtain ⟨pr, hpr⟩ : ∃ pr : Nat → Nat → Bool, pr = prc sv v := ⟨_, rfl⟩
      have hWri : Wri wc wc.heap.size kb b ws (avOf V) (gbOf V) (cpOf V) := by rw [hws]; exact hQ3.wri hn rfl
      have hPrec : PrecOk wc (w.heap.size + 2) pb b pr := by rw [hpr]; exact hQ3.p2.prec HGd.out HT.out (by omega) hS4 hsvS hn (fun b s => Nat.lt_of_le_of_lt (HVL.out b s) HLW.out) (fun b s => by have := HVL.out b s; omega)
      have HU := hide (uno ob ixb kb b (w.heap.size + 2) pb ws (avOf V) (gbOf V) (cpOf V) pr wc ho1 hx4 hob hixb hWri hPrec)
      have HZ : Hid (∀ wq, P2 w wq tb sb b S pb W tops Ls Li Lt Lm Lw → ∀ y z, y < b → z < b → Calls Yba.prog 16 #[.slice (some ⟨w.heap.size + 3, 0, none⟩) b b, .slice (some ⟨w.heap.size + 3 + 1, 0, none⟩) b b, .slice (some ⟨pb + 2, 0, none⟩) N N, .int .i64 S, .int .i64 y, .int .i64 z] wq fun e w' => e = .returned (.bool (pr y z)) ∧ ∃ m, w' = wq.drewN m) := by
        intro wq hq y z hy hz
        rw [hpr, ← HNN.out]
        exact hq.zprec HGd.out HT.out hS4 hsvS hn hy hz
      have HZ4 := hide fun wq (hb : Below wc.heap.size wc wq) => HZ.out wq (hQ3.p2.later hb)
      exact tail17 w wc _ (by assumption) S b N (w.heap.size + 2) pb ob (w.heap.size + 3) (w.heap.size + 3 + 1) (pb + 2) kb ws (avOf V) (gbOf V) (cpOf V) pr HU HZ4 (hide hWri) hQ3.p2.below
end Go.Proofs.Ybulkcsym
