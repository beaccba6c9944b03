/-
  OUR OWN. 'LawS4731CExact' (function 5): the call of unorderedPairs.
-/
import Derived.Test.YbulkcsymTail19
namespace Go.Proofs.Ybulkcsym
open Go.RowKit

theorem Wri.size {w : World} {B B' kb n : Nat} {ws : Nat → List Nat} {av : Nat → Option Addr} {gb cp : Nat → Nat} (h : Wri w B kb n ws av gb cp) (hb : B ≤ B') : Wri w B' kb n ws av gb cp :=
  ⟨h.hdr, h.at0, h.cap, h.cell, fun k hk h0 => Nat.lt_of_lt_of_le (h.lt k hk h0) hb, Nat.lt_of_lt_of_le h.klt hb, h.len, h.val⟩

set_option maxRecDepth 100000 in
set_option maxHeartbeats 4000000 in
theorem tail17 (w w4 : World) (K : Act → World → Prop) (hK : ∀ a wx, (restOf Yba.f5.body 17).wp Yba.prog (bodyPost Yba.prog Yba.f5 fun e w' => e = .returned (.bool true) ∧ Below w.heap.size w w') a wx → K a wx)
    {u0 u1 u2 u3 u4 u5 u6 u7 u8 u9 u14 u15 u16 u17 u20 u21 u22 u23 u25 u26 u28 u29 u30 u31 u32 u33 u34 u35 u36 u37 u38 u39 u40 u41 u42 u43 u44 u45 u46 u47 u48 u49 u50 u51 u52 u53 u54 u55 u56 u57 u58 u59 u60 u61 u62 u63 u64 u65 u66 u67 u68 u69 u70 u71 u72 u73 u74 u75 u76 u77 u78 u79 u80 u81 u82 u83 u84 u85 u86 u87 u88 u89 u90 u91 u92 u93 u94 u95 u96 u97 u98 u99 u100 u101 u102 u103 u104 u105 u106 u107 u108 u109 u110 u111 u112 u113 u114 u115 u116 u117 u118 u119 u120 u121 u122 u123 u124 u125 u126 u127 u128 u129 u130 u131 u132 u133 u134 u135 u136 u137 u138 u139 u140 u141 u142 u143 u144 u145 u146 u147 u148 u149 u150 u151 u152 u153 u154 u155 u156 u157 u158 u159 u160 u161 u162 u163 u164 u165 u166 u167 u168 u169 u170 u171 u172 u173 u174 u175 u176 u177 u178 u179 u180 u181 u182 u183 u184 u185 u186 u187 u188 u189 u190 u191 u192 u193 u194 u195 u196 u197 u198 u199 u200 u201 u202 u203 u204 u205 u206 u207 u208 u209 u210 u211 u212 u213 u214 u215 u216 u217 u218 u219 u220 u221 u222 u223 u224 u225 u226 u227 u228 u229 u230 u231 u232 u233 u234 u235 u236 u237 u238 u239 u240 u241 u242 u243 u244 u245 u246 u247 u248 u249 u250 u251 u252 u253 u254 u255 u256 u257 u258 u259 u260 u261 u262 u263 u264 u265 u266 u267 u268 u269 u270 u271 u272 u273 u274 u275 u276 u277 u278 u279 u280 u281 u282 u283 u284 u285 u286 u287 u288 u289 u290 u291 u292 u293 u294 u295 u296 u297 u298 u299 u300 u301 u302 u303 u304 u305 u306 u307 u308 u309 u310 u311 u312 u313 u314 u315 u316 u317 u318 u319 u320 u321 u322 u323 u324 u325 u326 u327 u328 u329 u330 u331 u332 u333 u334 u335 u336 u337 u338 u339 u340 u341 u342 u343 u344 u345 u346 u347 u348 : Value} (S n N cb pb ob so io mb kb : Nat) (ws : Nat → List Nat) (av : Nat → Option Addr) (gb cp : Nat → Nat) (pr : Nat → Nat → Bool)
    (HU : Hid (Calls Yba.prog 15 #[.pointer (some ⟨ob, 0, none⟩), fAgg cb pb] w4 fun e w' => ∃ T, e = .returned T ∧ w'.ownsRow w4.heap.size 96 7 T (pk pr ws 4).length ((pk pr ws 4).flatMap pairC) ∧ Below w4.heap.size w4 w'))
    (HZ : Hid (∀ wq, Below w4.heap.size w4 wq → ∀ y z, y < n → z < n → Calls Yba.prog 16 #[.slice (some ⟨so, 0, none⟩) n n, .slice (some ⟨io, 0, none⟩) n n, .slice (some ⟨mb, 0, none⟩) N N, .int .i64 S, .int .i64 y, .int .i64 z] wq fun e w' => e = .returned (.bool (pr y z)) ∧ ∃ m, w' = wq.drewN m))
    (HWr : Hid (Wri w4 w4.heap.size kb n ws av gb cp)) (hbw : Below w.heap.size w w4) :
    K { tmps := #[u0, u1, u2, u3, u4, u5, u6, u7, u8, u9, .int .i64 S, .pointer (some ⟨cb, 0, none⟩), .slice (some ⟨so, 0, none⟩) n n, .slice (some ⟨io, 0, none⟩) n n, u14, u15, u16, u17, .pointer (some ⟨pb, 0, none⟩), .slice (some ⟨mb, 0, none⟩) N N, u20, u21, u22, u23, .slice (some ⟨kb, 0, none⟩) 4 4, u25, u26, .pointer (some ⟨ob, 0, none⟩), u28, u29, u30, u31, u32, u33, u34, u35, u36, u37, u38, u39, u40, u41, u42, u43, u44, u45, u46, u47, u48, u49, u50, u51, u52, u53, u54, u55, u56, u57, u58, u59, u60, u61, u62, u63, u64, u65, u66, u67, u68, u69, u70, u71, u72, u73, u74, u75, u76, u77, u78, u79, u80, u81, u82, u83, u84, u85, u86, u87, u88, u89, u90, u91, u92, u93, u94, u95, u96, u97, u98, u99, u100, u101, u102, u103, u104, u105, u106, u107, u108, u109, u110, u111, u112, u113, u114, u115, u116, u117, u118, u119, u120, u121, u122, u123, u124, u125, u126, u127, u128, u129, u130, u131, u132, u133, u134, u135, u136, u137, u138, u139, u140, u141, u142, u143, u144, u145, u146, u147, u148, u149, u150, u151, u152, u153, u154, u155, u156, u157, u158, u159, u160, u161, u162, u163, u164, u165, u166, u167, u168, u169, u170, u171, u172, u173, u174, u175, u176, u177, u178, u179, u180, u181, u182, u183, u184, u185, u186, u187, u188, u189, u190, u191, u192, u193, u194, u195, u196, u197, u198, u199, u200, u201, u202, u203, u204, u205, u206, u207, u208, u209, u210, u211, u212, u213, u214, u215, u216, u217, u218, u219, u220, u221, u222, u223, u224, u225, u226, u227, u228, u229, u230, u231, u232, u233, u234, u235, u236, u237, u238, u239, u240, u241, u242, u243, u244, u245, u246, u247, u248, u249, u250, u251, u252, u253, u254, u255, u256, u257, u258, u259, u260, u261, u262, u263, u264, u265, u266, u267, u268, u269, u270, u271, u272, u273, u274, u275, u276, u277, u278, u279, u280, u281, u282, u283, u284, u285, u286, u287, u288, u289, u290, u291, u292, u293, u294, u295, u296, u297, u298, u299, u300, u301, u302, u303, u304, u305, u306, u307, u308, u309, u310, u311, u312, u313, u314, u315, u316, u317, u318, u319, u320, u321, u322, u323, u324, u325, u326, u327, u328, u329, u330, u331, u332, u333, u334, u335, u336, u337, u338, u339, u340, u341, u342, u343, u344, u345, u346, u347, u348], defers := [] } w4 := by
  refine hK _ _ ?_
  refine wp_seq_of (show restOf Yba.f5.body 17 = Code.seq _ _ from rfl) ?_
  unfold fAgg at HU
  go_wp2_with fail
  refine HU.out.mono ?_
  rintro e w5 ⟨T, rfl, hrow, hb5⟩
  have HW5 : Hid (Wri w5 w5.heap.size kb n ws av gb cp) := (HWr.out.below hb5).size hb5.size
  have HZ5 := hide fun wq (hq : Below w5.heap.size w5 wq) => HZ.out wq (hb5.trans (hq.mono hb5.size))
  obtain ⟨M, hM⟩ : ∃ M, M = (pk pr ws 4).length := ⟨_, rfl⟩
  rw [← hM] at hrow
  obtain ⟨Ta, Tc, rfl, hTc, _⟩ := ownsRow_slice hrow
  have HRow := hide hrow
  have HMM := hide hM
  have hM5 : M ≤ 500000 := by rw [hM]; exact Nat.le_trans (pk_len HWr.out.len (Nat.le_refl 4)) (by omega)
  clear hrow hM HU
  go_upto_region 49 with fail
  go_cut [29] (fun mm wc => mm = .int .i64 0 ∧ wc = w5)
  case first =>
    go_wp2_with fail
    go_meet
    case rel => exact ⟨rfl, rfl⟩
  case rest =>
  obtain ⟨rfl, rfl⟩ := hcut
  exact tail19 w _ _ (by assumption) S n N M Tc so io mb kb _ Ta ws av gb cp pr HZ5 HW5 HRow HMM hM5 (hbw.trans (hb5.mono hbw.size))
end Go.Proofs.Ybulkcsym
