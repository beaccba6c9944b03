/-
  OUR OWN. 'Rows.LawS4722BStringsSaid'. The frame after the shell that the kit's tool wrote for this seat's LawS4722BTable, turned to slices of strings and of bools.
-/
import Derived.Test.YbulkcstqBStrWalk
import Derived.ProofKit
import Derived.OpenShut
import Derived.ShutString
import Derived.ChangeOld
import Derived.SliceStrings
import Derived.Deep.Grids
namespace Go.Proofs.Ybulkcstq.BStr
open Go.ChangeShapes Go.WideShapes Go.ChangeAt Go.RowKit

theorem own : ownKnob Yba.prog.godebug = none := by kernel_rfl
theorem laidOut : laidOutB Yba.prog = true := by kernel_rfl

theorem lt_of_cell {W : World} {b o : Nat} {v : Value} (h : W.cell? ⟨b, o, none⟩ = some v) : b < W.heap.size := by
  simp only [World.cell?] at h
  cases hb : W.heap[b]? with
  | none => rw [hb] at h; simp at h
  | some x => exact (Array.getElem?_eq_some_iff.1 hb).1

/-- A slice of strings that came in, as the walk wants it. -/
theorem strs_arg {H : Type} {enc : TypeId × Value → H} {W : World} {d : DataW H} {ps : List MemPlace} {a : Option Addr} {len cap : Nat} (h : DataW.Trod enc Yba.prog W 0 (fun _ => true) true 28 (.slice a len cap) d ps) :
    ∃ (b off : Nat) (ss : List ByteArray), (0 < len → a = some ⟨b, off, none⟩) ∧ ss.length = len ∧ (∀ i, i < len → W.cell? ⟨b, off + i, none⟩ = some (.string (ss.getD i ByteArray.empty))) ∧ (∀ s ∈ ss, s.size ≤ maxLen) ∧ (0 < len → b < W.heap.size) := by
  obtain ⟨fuel, hf⟩ := h
  rcases open_strings Yba.underlying28 Yba.underlying9 (by kernel_rfl) hf with ⟨hcs, _⟩ | ⟨x, l, c, ss, hcs, _, hl, hm, hz, _, hcell, hws⟩
  · simp [Value.cells] at hcs
    obtain ⟨rfl, rfl, rfl⟩ := hcs
    exact ⟨0, 0, [], fun h => absurd h (by omega), rfl, fun i hi => absurd hi (by omega), fun s hs => by simp at hs, fun h => absurd h (by omega)⟩
  · simp [Value.cells] at hcs
    obtain ⟨rfl, rfl, rfl⟩ := hcs
    simp only [if_true] at hz
    by_cases h0 : 0 < len
    · have hc0 := hcell 0 (by omega)
      obtain ⟨b, off, spot⟩ := x
      have hspot : spot = none := by simpa [Addr.add] using World.cell?_spot hc0
      subst hspot
      have hcell' : ∀ i, i < len → W.cell? ⟨b, off + i, none⟩ = some (.string ((ss.take len).getD i ByteArray.empty)) := fun i hi => by
        have := hcell i (by omega)
        rw [add_plain] at this
        rw [this, List.getD, List.getD, List.getElem?_take_of_lt hi]
      exact ⟨b, off, ss.take len, fun _ => rfl, by simp; omega, hcell', fun s hs => hws s (List.mem_of_mem_take hs), fun _ => lt_of_cell (hcell' 0 h0)⟩
    · exact ⟨0, 0, [], fun h => absurd h (by omega), by simp; omega, fun i hi => absurd hi (by omega), fun s hs => by simp at hs, fun h => absurd h (by omega)⟩

/-- A slice of bools. -/
theorem bools_arg {H : Type} {enc : TypeId × Value → H} {W : World} {d : DataW H} {ps : List MemPlace} {a : Option Addr} {len cap : Nat} (h : DataW.Trod enc Yba.prog W 0 (fun _ => true) true 73 (.slice a len cap) d ps) :
    ∃ (b off : Nat) (bs : List Bool), (0 < len → a = some ⟨b, off, none⟩) ∧ bs.length = len ∧ (∀ i, i < len → W.cell? ⟨b, off + i, none⟩ = some (.bool (bs.getD i false))) ∧ len ≤ maxLen ∧ (0 < len → b < W.heap.size) := by
  obtain ⟨fuel, hf⟩ := h
  rcases Deep.open_bools Yba.underlying73 Yba.underlying4 (by kernel_rfl) hf with ⟨hcs, _⟩ | ⟨x, l, c, B, hcs, _, hl, hm, _, hcell⟩
  · simp [Value.cells] at hcs
    obtain ⟨rfl, rfl, rfl⟩ := hcs
    exact ⟨0, 0, [], fun h => absurd h (by omega), rfl, fun i hi => absurd hi (by omega), Nat.zero_le _, fun h => absurd h (by omega)⟩
  · simp [Value.cells] at hcs
    obtain ⟨rfl, rfl, rfl⟩ := hcs
    by_cases h0 : 0 < len
    · have hc0 := hcell 0 (by omega)
      obtain ⟨b, off, spot⟩ := x
      have hspot : spot = none := by simpa [Addr.add] using World.cell?_spot hc0
      subst hspot
      have hcell' : ∀ i, i < len → W.cell? ⟨b, off + i, none⟩ = some (.bool (((List.range len).map B).getD i false)) := fun i hi => by
        have := hcell i (by omega)
        rw [add_plain] at this
        rw [this]
        simp [hi]
      exact ⟨b, off, (List.range len).map B, fun _ => rfl, by simp, hcell', Nat.le_trans hl hm, fun _ => lt_of_cell (hcell' 0 h0)⟩
    · exact ⟨0, 0, [], fun h => absurd h (by omega), by simp; omega, fun i hi => absurd hi (by omega), Nat.le_trans hl hm, fun h => absurd h (by omega)⟩

set_option maxRecDepth 100000 in
theorem lifted (os : Os) (started : os.Started) (H : Type) (enc : TypeId × Value → H) :
    ReturnsInHanded {} Yba.checked os 5 .any (Rows.lawS4722BStringsSpec.pre6 enc Yba.prog Yba.f5 Rows.lawS4722BStringsRow.domain false) (Rows.lawS4722BStringsSpec.post enc Yba.prog Yba.f5 false true false false) := by
  refine returnsInHanded_of_change (C := Yba.checked) own started (by kernel_rfl) Yba.func5
    (ChangeSpec.witness6 (enc := enc) (C := Yba.checked) false ⟨#[], #[.slice none 0 0, .slice none 0 0, .slice none 0 0], []⟩ 8 (by kernel_rfl) (by kernel_rfl) (by kernel_rfl) (by kernel_rfl)) ?_
  intro W base args ds gs before hval0 hW hcnd _
  have hval : ∀ (j : Nat) t v, Yba.f5.params[j]? = some t → args[j]? = some v → Value.okWide Yba.prog W .any base t v := hval0
  have hW' := hW
  obtain ⟨p, q, hA0, hV, rfl, hfz, hnd⟩ := hW
  have hA : DataW.TrodAll enc Yba.prog W 0 (fun _ => true) true Yba.f5.params.toList args.toList ds p := hA0
  rw [Yba.params5] at hA hval
  obtain ⟨v0, vs0, d0, ds0, p0, q0, hargs, rfl, rfl, h0, r0⟩ := trodAll_cons hA
  obtain ⟨v1, vs1, d1, ds1, p1, q1, rfl, rfl, rfl, h1, r1⟩ := trodAll_cons r0
  obtain ⟨v2, vs2, d2, ds2, p2, q2, rfl, rfl, rfl, h2, r2⟩ := trodAll_cons r1
  obtain ⟨rfl, rfl, rfl⟩ := trodAll_nil r2
  obtain rfl : args = #[v0, v1, v2] := by cases args; simp_all
  obtain ⟨rfl, rfl⟩ := trodVars_none hV
  obtain ⟨a0, len0, cap0, rfl⟩ := okWide_slice Yba.underlying28 (hval 0 28 v0 rfl rfl)
  obtain ⟨a1, len1, cap1, rfl⟩ := okWide_slice Yba.underlying73 (hval 1 73 v1 rfl rfl)
  obtain ⟨a2, len2, cap2, rfl⟩ := okWide_slice Yba.underlying28 (hval 2 28 v2 rfl rfl)
  have lt0 : ∀ x ∈ p0, x.block < W.heap.size := by obtain ⟨m, hm⟩ := h0; exact DataW.trod_lt m _ _ _ hm
  have lt1 : ∀ x ∈ p1, x.block < W.heap.size := by obtain ⟨m, hm⟩ := h1; exact DataW.trod_lt m _ _ _ hm
  have lt2 : ∀ x ∈ p2, x.block < W.heap.size := by obtain ⟨m, hm⟩ := h2; exact DataW.trod_lt m _ _ _ hm
  obtain ⟨b0, o0, ss0, ha0, l0, c0, z0, y0⟩ := strs_arg h0
  obtain ⟨b1, o1, ss1, ha1, l1, c1, z1, y1⟩ := bools_arg h1
  obtain ⟨b2, o2, ss2, ha2, l2, c2, z2, y2⟩ := strs_arg h2
  clear hA0 hval0
  have walk : Calls Yba.prog 5 #[.slice a0 len0 cap0, .slice a1 len1 cap1, .slice a2 len2 cap2] W fun e w' => e = .returned (.bool true) ∧ Below W.heap.size W w' := by
    by_cases hlong : 1024 < len0 ∨ 1024 < len2
    · exact bstr_long a0 a1 a2 len0 cap0 len1 cap1 len2 cap2 W hlong
    · exact bstr_walk a0 a1 a2 len0 cap0 len1 cap1 len2 cap2 b0 o0 b1 o1 b2 o2 ss0 ss1 ss2 W ha0 ha1 ha2 l0 l1 l2 c0 c1 c2 z0 z2 y0 y1 y2 (by unfold maxLen at z1; omega) (by omega) (by omega)
  refine walk.mono fun e W' ⟨he, bel⟩ => ?_
  subst he
  exact ⟨_, rfl, _, _, _, [], _, [], hW', trodAll_mk1 (shut_bool Yba.underlying4 _), (trodAll_cons_mk (Below.trod laidOut (by kernel_rfl) (of_decide_eq_true (by kernel_rfl)) h0 bel lt0) (trodAll_cons_mk (Below.trod laidOut (by kernel_rfl) (of_decide_eq_true (by kernel_rfl)) h1 bel lt1) (trodAll_cons_mk (Below.trod laidOut (by kernel_rfl) (of_decide_eq_true (by kernel_rfl)) h2 bel lt2) trodAll_mk0))), rfl, bel.frame _, fun h => by cases h⟩

theorem over : Rows.lawS4722BStringsRow.holds Yba.pinned (OpenSpec.ofChange Rows.lawS4722BStringsSpec) :=
  OpenClaim.holds_of_wide 5 Yba.f5 rfl rfl rfl rfl rfl rfl rfl ⟨rfl, rfl, rfl, rfl, rfl⟩ rfl rfl rfl rfl rfl (by kernel_rfl) Yba.func5 (by kernel_rfl)
    (of_decide_eq_true (by kernel_rfl)) (by unfold Func.isWrapper; first | (rw [if_pos (by decide +kernel)]; kernel_rfl) | (rw [if_neg (by decide +kernel)]; exact ⟨rfl, rfl⟩))
    (fun os started H enc _ => lifted os started H enc)

/-- THE STATEMENT -/
theorem proved : Rows.LawS4722BStringsSaid := over
#print axioms proved
end Go.Proofs.Ybulkcstq.BStr
