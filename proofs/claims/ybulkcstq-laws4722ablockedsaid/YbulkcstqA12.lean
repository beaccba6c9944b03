/-
  OUR OWN. 'LawS4722ABlocked' (function 3): the roots' ids.
-/
import Derived.Test.YbulkcstqA15
import Derived.Test.YbulkcstqRs
namespace Go.Proofs.Ybulkcstq
open Go.RowKit Go.Maps Go.WideMaps Bfs

set_option maxRecDepth 100000 in
set_option maxHeartbeats 4000000 in
theorem tail12 (w w1 : World) (K : Act → World → Prop) (hK : ∀ a wx, (restOf Yba.f3.body 12).wp Yba.prog (bodyPost Yba.prog Yba.f3 fun e w' => e = .returned (.bool true) ∧ Below w.heap.size w w') a wx → K a wx)
    {u1 u2 u4 u5 u6 u7 u8 u10 u11 u12 u13 u14 u15 u18 u19 u20 u21 u22 u23 u25 u26 u27 u28 u29 u30 u31 u32 u33 u34 u35 u36 u37 u38 u39 u40 u41 u42 u43 u44 u45 u46 u47 u48 u49 u50 u51 u52 u53 u54 u55 u56 u57 u58 u59 u60 u61 u62 u63 u64 u65 u66 u67 u68 u69 u70 u71 u72 u73 u74 u75 u76 u77 u78 u79 u80 u81 u82 u83 u84 u85 u86 u87 u88 u89 u90 u91 u92 u93 u94 u95 u96 u97 u98 u99 u100 u101 u102 u103 u104 u105 u106 u107 u108 u109 u110 u111 u112 u113 u114 u115 u116 u117 u118 u119 u120 u121 u122 u123 u124 u125 u126 u127 u128 u129 u130 u131 u132 u133 u134 u135 u136 u137 u138 u139 u140 u141 u142 u143 u144 u145 u146 u147 u148 u149 u150 u151 u152 u153 u154 u155 u156 u157 u158 u159 u160 u161 u162 u163 u164 u165 u166 u167 u168 u169 u170 u171 u172 u173 u174 u175 u176 u177 u178 u179 u180 u181 u182 u183 u184 u185 u186 u187 u188 u189 u190 u191 u192 u193 u194 u195 u196 u197 u198 u199 u200 u201 u202 u203 u204 u205 u206 u207 u208 u209 u210 u211 u212 u213 u214 u215 u216 u217 u218 u219 u220 u221 u222 u223 u224 u225 u226 u227 u228 u229 u230 u231 u232 u233 u234 u235 u236 u237 u238 u239 u240 u241 u242 u243 u244 u245 u246 u247 u248 u249 u250 u251 u252 u253 u254 u255 u256 u257 u258 u259 u260 u261 u262 u263 u264 u265 u266 u267 u268 u269 u270 u271 u272 u273 u274 u275 u276 u277 u278 u279 u280 u281 u282 u283 u284 u285 u286 u287 u288 u289 u290 u291 u292 u293 u294 u295 u296 u297 u298 u299 u300 u301 u302 u303 u304 u305 u306 u307 u308 u309 u310 u311 u312 u313 u314 u315 u316 u317 u318 u319 u320 u321 u322 u323 u324 u325 u326 u327 u328 u329 u330 u331 u332 u333 u334 u335 u336 u337 u338 u339 u340 u341 u342 u343 u344 u345 u346 u347 u348 u349 u350 u351 u352 u353 u354 u355 u356 u357 u358 u359 u360 u361 u362 u363 u364 u365 : Value}
    (n nl nc nb no hb swb nr qc qb qo sb nw nt wc tc : Nat) (na qa wa ta : Option Addr) (WL : List (Nat × Bool)) (TL : List Nat) (xs : Nat → Nat) (inP co : Nat → Bool) (dv : Nat → Value) (da : Nat → Option Addr) (dn dc bk off : Nat → Nat) (ds : Nat → Nat → Nat)
    (hna : 0 < n → na = some ⟨nb, no, none⟩) (hnl : n ≤ nl) (HN : Hid (Nodes w1 n nb no inP co da dn dc bk off ds)) (HDN : Hid (∀ i, i < n → dn i ≤ 1024))
    (HH : Hid (Arr w1 hb 9 (boolF (heldS WL TL)))) (HQ : Hid (Bytes w1 qa nr qb qo xs))
    (HSW : Hid (SwOk w1 swb sb nw nt wc tc wa ta WL TL)) (HSB : Hid (SubOk w1 sb n inP co dv (depL dn ds))) (hnr : nr ≤ 1024) (hbw : Below w.heap.size w w1) :
    K { tmps := #[.slice na nl nc, u1, u2, .slice qa nr qc, u4, u5, u6, u7, u8, .int .i64 (n : Int), u10, u11, u12, u13, u14, u15, .pointer (some ⟨hb, 0, none⟩), .pointer (some ⟨swb, 0, none⟩), u18, u19, u20, u21, u22, u23, .slice (some ⟨w1.heap.size, 0, none⟩) 0 nr, u25, u26, u27, u28, u29, u30, u31, u32, u33, u34, u35, u36, u37, u38, u39, u40, u41, u42, u43, u44, u45, u46, u47, u48, u49, u50, u51, u52, u53, u54, u55, u56, u57, u58, u59, u60, u61, u62, u63, u64, u65, u66, u67, u68, u69, u70, u71, u72, u73, u74, u75, u76, u77, u78, u79, u80, u81, u82, u83, u84, u85, u86, u87, u88, u89, u90, u91, u92, u93, u94, u95, u96, u97, u98, u99, u100, u101, u102, u103, u104, u105, u106, u107, u108, u109, u110, u111, u112, u113, u114, u115, u116, u117, u118, u119, u120, u121, u122, u123, u124, u125, u126, u127, u128, u129, u130, u131, u132, u133, u134, u135, u136, u137, u138, u139, u140, u141, u142, u143, u144, u145, u146, u147, u148, u149, u150, u151, u152, u153, u154, u155, u156, u157, u158, u159, u160, u161, u162, u163, u164, u165, u166, u167, u168, u169, u170, u171, u172, u173, u174, u175, u176, u177, u178, u179, u180, u181, u182, u183, u184, u185, u186, u187, u188, u189, u190, u191, u192, u193, u194, u195, u196, u197, u198, u199, u200, u201, u202, u203, u204, u205, u206, u207, u208, u209, u210, u211, u212, u213, u214, u215, u216, u217, u218, u219, u220, u221, u222, u223, u224, u225, u226, u227, u228, u229, u230, u231, u232, u233, u234, u235, u236, u237, u238, u239, u240, u241, u242, u243, u244, u245, u246, u247, u248, u249, u250, u251, u252, u253, u254, u255, u256, u257, u258, u259, u260, u261, u262, u263, u264, u265, u266, u267, u268, u269, u270, u271, u272, u273, u274, u275, u276, u277, u278, u279, u280, u281, u282, u283, u284, u285, u286, u287, u288, u289, u290, u291, u292, u293, u294, u295, u296, u297, u298, u299, u300, u301, u302, u303, u304, u305, u306, u307, u308, u309, u310, u311, u312, u313, u314, u315, u316, u317, u318, u319, u320, u321, u322, u323, u324, u325, u326, u327, u328, u329, u330, u331, u332, u333, u334, u335, u336, u337, u338, u339, u340, u341, u342, u343, u344, u345, u346, u347, u348, u349, u350, u351, u352, u353, u354, u355, u356, u357, u358, u359, u360, u361, u362, u363, u364, u365], defers := [] } (w1.alloc (.cells (madeCells #[.string ByteArray.empty] nr) 9)) := by
  refine hK _ _ ?_
  refine wp_seq_of (show restOf Yba.f3.body 12 = Code.seq _ _ from rfl) ?_
  have h41 := zero41
  have HR0 := hide (RS.start w1 nr hnr xs)
  have hbs := hbw.size
  go_wp2
  clear h41
  go_loopw [24, 187] (fun sv iv wr => ∃ k : Nat, k ≤ nr ∧ iv = .int .i64 k ∧ RS w1 wr sv k xs) (fun _ iv _ => nr - (intOf iv).toNat)
  case atStart => exact ⟨0, Nat.zero_le _, rfl, HR0.out⟩
  case round =>
    clear HR0
    obtain ⟨k, hk, rfl, hS⟩ := hrel
    by_cases hkn : k < nr
    · have hg1 : decide ((k : Int) < (nr : Int)) = true := decide_eq_true (by omega)
      have hQ := HQ.out.below hS.below
      have cq := hQ.cd k hkn
      have hqe := hQ.ad (by omega)
      have hle := hQ.le k hkn
      obtain ⟨x, hx⟩ : ∃ x, x = xs k := ⟨_, rfl⟩
      rw [← hx] at cq hle
      have HX := hide hx
      subst hqe
      have HS := hide hS
      obtain ⟨i9, hi9, hz90, hz91, hz92⟩ := info_parts info9
      clear hx hS hQ
      go_upto_region 45 with fail
      obtain ⟨q, hq⟩ : ∃ q, q = x % 9 := ⟨_, rfl⟩
      have hq9 : q < 9 := by omega
      have hqi : ((x : Int) % 9) = (q : Int) := by omega
      have HQQ := hide hq
      rw [hqi]
      clear hq hqi cq
      have HO2 : Hid ((wr.alloc (.cells #[sV q] 9)).ownsRow w1.heap.size 9 1 u24 k ((idsL k xs).map sV)) := HS.out.row.alloc _
      have HNW2 := hide (World.news_of_block (Blk.made wr #[sV q] 9))
      have H12 : Hid (∀ x ∈ [sV q], x.oneCell' = true) := by intro x hx; simp at hx; subst hx; rfl
      have hs4 := HS.out.below.size
      go_wp2_with fail
      refine (aid q hq9 _).mono ?_
      rintro e w' ⟨rfl, hw'⟩
      subst hw'
      go_upto_region 46 with (at_builtin; refine wpList_append_lies _ rfl (.tmp 194) (.tmp 197) 28 rfl w1.heap.size 9 i9 (.string ByteArray.empty) 1 16 Yba.underlying28 hi9 hz90 hz91 hz92 rfl (by decide) _ k _ rfl HO2.out ⟨w'.heap.size, 0, none⟩ 1 1 _ rfl rfl HNW2.out H12.out (by omega) (by unfold maxLen; omega) (by omega) (by simp; omega) _ rfl ?_; intro g5 cap5 w5 hown5 hgrow5 hat5 hlt5)
      obtain ⟨hU5, hS5⟩ := HS.out.push (by rw [HQQ.out, HX.out]) hown5 hgrow5 hat5 (Nat.le_refl _)
      have cu := hU5.cell hq9
      have cf := hU5.free q
      have HS5 := hide hS5
      clear hown5 hgrow5 hat5 hU5 hS5 HS HO2 HNW2
      go_wp2
      go_roundw
      case rel => exact ⟨k + 1, by omega, by go_num, HS5.out⟩
      case measure => simp [intOf]; omega
    · obtain rfl : k = nr := by omega
      have hg1 : decide ((k : Int) < (k : Int)) = false := by simp
      obtain ⟨ra, rc, rfl, _, _⟩ := ownsRow_slice hS.row
      have HS := hide hS
      have h56 := zero56
      clear hS
      go_upto_region 48 with fail
      go_cut [29] (fun v wz => v = .pointer (some ⟨wr.heap.size, 0, none⟩) ∧ wz = wr.alloc (.cells zb81 56))
      case first =>
        go_wp2_with fail
        go_meet
        case rel => exact ⟨rfl, rfl⟩
      case rest =>
      obtain ⟨rfl, rfl⟩ := hcut
      have hbb := HS.out.below
      exact tail15 w wr _ (by assumption) n nl nc nb no hb swb (w1.heap.size + 1) k rc sb nw nt wc tc na ra wa ta WL TL (idsL k xs) inP co (fun r => decide (r ∈ idsL k xs)) dv da dn dc bk off ds hna hnl (HN.out.below hbb) HDN.out (HH.out.below hbb HH.out.lt) HS.out.us
        (HSW.out.below hbb) ⟨HSB.out.map.below hbb HSB.out.map.lt, fun i hi => (HSB.out.rows i hi).kept (below_grown hbb) (own_or _), HSB.out.small, HSB.out.len, HSB.out.n8⟩ (row0 HS.out.row) (idsL_lt _ _) hnr (fun r _ => by simp) (hbw.trans (hbb.mono hbs))
end Go.Proofs.Ybulkcstq
