/-
  'Rows.LawS4726BScriptSaid': the frame is after the one that the kit's tool writes; the walk is ours.
-/
import Derived.Test.YbulkcsvuLaw
import Derived.WalkKit
import Derived.ProofKit
import Derived.OpenShut
import Derived.ShutString
import Derived.ChangeOld
import Derived.Below
import Derived.Deep.Strs
namespace Go.Proofs.Ybulkcsvu.lawS4726BScript
open Go.ChangeShapes Go.WideShapes Go.ChangeAt Go.RowKit
set_option linter.unusedVariables false

theorem own : ownKnob Yba.prog.godebug = none := by kernel_rfl
theorem laidOut : laidOutB Yba.prog = true := by kernel_rfl

/-- The steps, as the walk wants them. -/
theorem steps_arg {H : Type} {enc : TypeId × Value → H} {W : World} {a : Option Addr} {len cap fuel : Nat} {x : DataW H × List MemPlace} (h : DataW.trod enc Yba.prog W 0 (fun _ => true) true fuel 34 [.slice a len cap] = some x) :
    ∃ (sb so : Nat) (X Y : Nat → Int) (Z : Nat → Bool), (0 < len → a = some ⟨sb, so, none⟩) ∧ (∀ i, i < len → W.cell? ⟨sb, so + i * 3, none⟩ = some (.int .u64 (X i))) ∧ (∀ i, i < len → W.cell? ⟨sb, so + i * 3 + 1, none⟩ = some (.int .u64 (Y i))) ∧
      (∀ i, i < len → W.cell? ⟨sb, so + i * 3 + 2, none⟩ = some (.bool (Z i))) ∧ (∀ i, i < len → (Lit.int .u64 (X i)).wf = true) ∧ (∀ i, i < len → (Lit.int .u64 (Y i)).wf = true) ∧ (0 < len → sb < W.heap.size) := by
  by_cases h0 : 0 < len
  · rcases Deep.open_slice Yba.underlying34 h with ⟨hcs, _⟩ | ⟨ad, len', cap', m, n, D, Pl, hcs, _, hl, _, hmm, _, hx⟩
    · simp at hcs; omega
    · simp only [List.cons.injEq, Value.slice.injEq, and_true] at hcs
      obtain ⟨rfl, rfl, rfl⟩ := hcs
      have hm : m = cap := by simpa using hmm
      have each : ∀ i, i < len → ∃ q : Int × Int × Bool, W.cell? (ad.add (i * 3)) = some (.int .u64 q.1) ∧ W.cell? (ad.add (i * 3 + 1)) = some (.int .u64 q.2.1) ∧ W.cell? (ad.add (i * 3 + 2)) = some (.bool q.2.2) ∧ (Lit.int .u64 q.1).wf = true ∧ (Lit.int .u64 q.2.1).wf = true := by
        intro i hi
        obtain ⟨cs, h1, h2⟩ := hx i (by omega)
        rw [show Yba.prog.cellsOf 43 = 3 by kernel_rfl] at h1
        obtain ⟨_, hlen, hcell⟩ := World.cells?_some h1
        obtain ⟨y0, y1, y2, k, _, _, g0, g1, g2⟩ := Deep.trod_struct3 Yba.underlying43 h2
        match cs, hlen with
        | [v0, v1, v2], _ =>
          simp only [show Yba.prog.cellsOf 41 = 1 by kernel_rfl, show Yba.prog.cellsOf 4 = 1 by kernel_rfl, List.drop_zero, List.drop_succ_cons, List.take_succ_cons, List.take_zero] at g0 g1 g2
          obtain ⟨n0, e0, _, w0⟩ := DataW.trod_int Yba.underlying41 g0
          obtain ⟨n1, e1, _, w1⟩ := DataW.trod_int Yba.underlying41 g1
          obtain ⟨b2, e2, _⟩ := DataW.trod_bool Yba.underlying4 g2
          have c0 := hcell 0 (by omega)
          have c1 := hcell 1 (by omega)
          have c2 := hcell 2 (by omega)
          rw [Deep.add_add] at c0 c1 c2
          simp only [List.cons.injEq, and_true] at e0 e1 e2
          subst e0 e1 e2
          exact ⟨(n0, n1, b2), by simpa using c0, by simpa using c1, by simpa using c2, w0, w1⟩
      obtain ⟨q, hq⟩ := Deep.choose_lt each
      have hc0 := (hq 0 h0).1
      obtain ⟨b, off, spot⟩ := ad
      have hspot : spot = none := by simpa [Addr.add] using World.cell?_spot hc0
      subst hspot
      refine ⟨b, off, fun i => (q i).1, fun i => (q i).2.1, fun i => (q i).2.2, fun _ => rfl, fun i hi => ?_, fun i hi => ?_, fun i hi => ?_, fun i hi => (hq i hi).2.2.2.1, fun i hi => (hq i hi).2.2.2.2, fun _ => ?_⟩
      · have := (hq i hi).1; rwa [add_plain] at this
      · have := (hq i hi).2.1; rwa [add_plain] at this
      · have := (hq i hi).2.2.1; rwa [add_plain] at this
      · rw [add_plain] at hc0
        exact lt_of_cell hc0
  · exact ⟨0, 0, fun _ => 0, fun _ => 0, fun _ => false, fun h => absurd h h0, fun i hi => absurd hi (by omega), fun i hi => absurd hi (by omega), fun i hi => absurd hi (by omega), fun i hi => absurd hi (by omega), fun i hi => absurd hi (by omega), fun h => absurd h h0⟩

set_option maxRecDepth 100000 in
theorem lifted (os : Os) (started : os.Started) (H : Type) (enc : TypeId × Value → H) :
    ReturnsInHanded {} Yba.checked os 5 .any (Rows.lawS4726BScriptSpec.pre6 enc Yba.prog Yba.f5 Rows.lawS4726BScriptRow.domain false) (Rows.lawS4726BScriptSpec.post enc Yba.prog Yba.f5 false true false false) := by
  refine returnsInHanded_of_change (C := Yba.checked) own started (by kernel_rfl) Yba.func5
    (ChangeSpec.witness6 (enc := enc) (C := Yba.checked) false ⟨#[], #[.slice none 0 0], []⟩ 8 (by kernel_rfl) (by kernel_rfl) (by kernel_rfl) (by kernel_rfl)) ?_
  intro W base args ds gs before hval0 hW hcnd _
  have hval : ∀ (j : Nat) t v, Yba.f5.params[j]? = some t → args[j]? = some v → Value.okWide Yba.prog W .any base t v := hval0
  have hW' := hW
  obtain ⟨p, q, hA0, hV, rfl, hfz, hnd⟩ := hW
  have hA : DataW.TrodAll enc Yba.prog W 0 (fun _ => true) true Yba.f5.params.toList args.toList ds p := hA0
  rw [Yba.params5] at hA hval
  obtain ⟨v0, vs0, d0, ds0, p0, q0, hargs, rfl, rfl, h0, r0⟩ := trodAll_cons hA
  obtain ⟨rfl, rfl, rfl⟩ := trodAll_nil r0
  obtain rfl : args = #[v0] := by cases args; simp_all
  obtain ⟨rfl, rfl⟩ := trodVars_none hV
  obtain ⟨a0, len0, cap0, rfl⟩ := okWide_slice Yba.underlying34 (hval 0 34 v0 rfl rfl)
  have k0 := h0
  have lt0 : ∀ x ∈ p0, x.block < W.heap.size := by obtain ⟨m, hm⟩ := k0; exact DataW.trod_lt m _ _ _ hm
  obtain ⟨sb, so, X, Y, Z, ha, hx, hy, hz, hwx, hwy, hsb⟩ := (by
    obtain ⟨fuel, hf⟩ := h0
    exact steps_arg (by simpa [Value.cells] using hf) : ∃ (sb so : Nat) (X Y : Nat → Int) (Z : Nat → Bool), (0 < len0 → a0 = some ⟨sb, so, none⟩) ∧ (∀ i, i < len0 → W.cell? ⟨sb, so + i * 3, none⟩ = some (.int .u64 (X i))) ∧ (∀ i, i < len0 → W.cell? ⟨sb, so + i * 3 + 1, none⟩ = some (.int .u64 (Y i))) ∧
      (∀ i, i < len0 → W.cell? ⟨sb, so + i * 3 + 2, none⟩ = some (.bool (Z i))) ∧ (∀ i, i < len0 → (Lit.int .u64 (X i)).wf = true) ∧ (∀ i, i < len0 → (Lit.int .u64 (Y i)).wf = true) ∧ (0 < len0 → sb < W.heap.size))
  clear hA0 hval0
  have walk : Calls Yba.prog 5 #[.slice a0 len0 cap0] W fun e w' => e = .returned (.bool true) ∧ Below W.heap.size W w' := by
    by_cases hl : len0 ≤ 4096
    · exact law_walk a0 len0 cap0 sb so X Y Z W ha hx hy hz hwx hwy hsb hl
    · exact law_long a0 len0 cap0 W hl
  refine walk.mono fun e W' ⟨he, bel⟩ => ?_
  subst he
  exact ⟨_, rfl, _, _, _, [], _, [], hW', trodAll_mk1 (shut_bool Yba.underlying4 _), (trodAll_cons_mk (Below.trod laidOut (by kernel_rfl) (of_decide_eq_true (by kernel_rfl)) k0 bel lt0) trodAll_mk0), rfl, bel.frame _, fun h => by cases h⟩

theorem over : Rows.lawS4726BScriptRow.holds Yba.pinned (OpenSpec.ofChange Rows.lawS4726BScriptSpec) :=
  OpenClaim.holds_of_wide 5 Yba.f5 rfl rfl rfl rfl rfl rfl rfl ⟨rfl, rfl, rfl, rfl, rfl⟩ rfl rfl rfl rfl rfl (by kernel_rfl) Yba.func5 (by kernel_rfl)
    (of_decide_eq_true (by kernel_rfl)) (by unfold Func.isWrapper; first | (rw [if_pos (by decide +kernel)]; kernel_rfl) | (rw [if_neg (by decide +kernel)]; exact ⟨rfl, rfl⟩))
    (fun os started H enc _ => lifted os started H enc)

/-- THE STATEMENT -/
theorem proved : Rows.LawS4726BScriptSaid := over
#print axioms proved
end Go.Proofs.Ybulkcsvu.lawS4726BScript
