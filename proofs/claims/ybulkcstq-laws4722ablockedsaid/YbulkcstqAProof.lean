/-
  'Rows.LawS4722ABlockedSaid': the frame is after the one that the kit's tool writes; the walk is ours.
-/
import Derived.Test.YbulkcstqA0
import Derived.WalkKit
import Derived.ProofKit
import Derived.OpenShut
import Derived.ShutString
import Derived.ChangeOld
import Derived.Below
import Derived.Deep.Strs
import Derived.Deep.SlicePairs
namespace Go.Proofs.Ybulkcstq.lawS4722ABlocked
open Go.ChangeShapes Go.WideShapes Go.ChangeAt Go.RowKit
set_option linter.unusedVariables false

theorem own : ownKnob Yba.prog.godebug = none := by kernel_rfl
theorem laidOut : laidOutB Yba.prog = true := by kernel_rfl

/-- A row of bytes that came in, as the walk wants it. -/
theorem bytes_arg {H : Type} {enc : TypeId × Value → H} {W : World} {a : Option Addr} {len cap fuel : Nat} {x : DataW H × List MemPlace} (h : DataW.trod enc Yba.prog W 0 (fun _ => true) true fuel 24 [.slice a len cap] = some x) :
    ∃ (b off : Nat) (xs : Nat → Nat), Bytes W a len b off xs := by
  by_cases h0 : 0 < len
  · rcases open_ints Yba.underlying24 Yba.underlying5 (by kernel_rfl) h with ⟨hcs, _⟩ | ⟨ad, l, c, zs, hcs, _, hl, hm, hz, _, hcell, hwz⟩
    · simp at hcs; omega
    · simp only [List.cons.injEq, Value.slice.injEq, and_true] at hcs
      obtain ⟨rfl, rfl, rfl⟩ := hcs
      have hz' : zs.length = cap := by simpa using hz
      have hc0 := hcell 0 (by omega)
      obtain ⟨b, off, spot⟩ := ad
      have hspot : spot = none := by simpa [Addr.add] using World.cell?_spot hc0
      subst hspot
      have bd : ∀ n ∈ zs, 0 ≤ n ∧ n ≤ 255 := fun n hn => bounds_u8 (hwz n hn)
      refine ⟨b, off, fun i => (zs.getD i 0).toNat, fun _ => rfl, fun i hi => ?_, fun i hi => ?_⟩
      · have h1 := hcell i (by omega)
        rw [add_plain] at h1
        have h2 := bd (zs[i]'(by omega)) (List.getElem_mem _)
        rw [h1]
        simp [List.getElem?_eq_getElem (show i < zs.length by omega)]
        omega
      · have h2 := bd (zs[i]'(by omega)) (List.getElem_mem _)
        simp [List.getElem?_eq_getElem (show i < zs.length by omega)]
        omega
  · exact ⟨0, 0, fun _ => 0, fun h => absurd h h0, fun i hi => absurd hi (by omega), fun i hi => absurd hi (by omega)⟩

/-- The workers that came in. -/
theorem workers_arg {H : Type} {enc : TypeId × Value → H} {W : World} {a : Option Addr} {len cap fuel : Nat} {x : DataW H × List MemPlace} (h : DataW.trod enc Yba.prog W 0 (fun _ => true) true fuel 23 [.slice a len cap] = some x) :
    ∃ (b off : Nat) (xs : Nat → Nat) (ps : Nat → Bool), WArg W a len b off xs ps := by
  by_cases h0 : 0 < len
  · rcases Deep.open_slice_pairs Yba.underlying23 Yba.underlying53 (by kernel_rfl) rfl rfl (by kernel_rfl) (by kernel_rfl) h with ⟨hcs, _⟩ | ⟨ad, l, c, m, n, V0, V1, D0, D1, P0, P1, hcs, _, hl, hm, hmm, _, hx⟩
    · simp at hcs; omega
    · simp only [List.cons.injEq, Value.slice.injEq, and_true] at hcs
      obtain ⟨rfl, rfl, rfl⟩ := hcs
      have hm' : m = cap := by simpa using hmm
      have each : ∀ i, i < len → ∃ q : Nat × Bool, W.cell? (ad.add (i * 2)) = some (.int .u8 (q.1 : Nat)) ∧ W.cell? (ad.add (i * 2 + 1)) = some (.bool q.2) ∧ q.1 ≤ 255 := by
        intro i hi
        obtain ⟨c0, c1, g0, g1⟩ := hx i (by omega)
        obtain ⟨n0, e0, _, w0⟩ := DataW.trod_int Yba.underlying5 g0
        obtain ⟨b1, e1, _⟩ := DataW.trod_bool Yba.underlying4 g1
        simp only [List.cons.injEq, and_true] at e0 e1
        have bd : 0 ≤ n0 ∧ n0 ≤ 255 := bounds_u8 w0
        refine ⟨(n0.toNat, b1), ?_, ?_, ?_⟩
        · rw [c0, e0]
          congr 2
          show n0 = ((n0.toNat : Nat) : Int)
          omega
        · rw [c1, e1]
        · show n0.toNat ≤ 255
          omega
      obtain ⟨q, hq⟩ := Deep.choose_lt each
      have hc0 := (hq 0 h0).1
      obtain ⟨b, off, spot⟩ := ad
      have hspot : spot = none := by simpa [Addr.add] using World.cell?_spot hc0
      subst hspot
      refine ⟨b, off, fun i => (q i).1, fun i => (q i).2, fun _ => rfl, fun i hi => ?_, fun i hi => ?_, fun i hi => (hq i hi).2.2⟩
      · have := (hq i hi).1; rwa [add_plain] at this
      · have := (hq i hi).2.1; rwa [add_plain] at this
  · exact ⟨0, 0, fun _ => 0, fun _ => false, fun h => absurd h h0, fun i hi => absurd hi (by omega), fun i hi => absurd hi (by omega), fun i hi => absurd hi (by omega)⟩

set_option maxRecDepth 100000 in
/-- The nodes that came in. -/
theorem nodes_arg {H : Type} {enc : TypeId × Value → H} {W : World} {a : Option Addr} {len cap fuel : Nat} {x : DataW H × List MemPlace} (h : DataW.trod enc Yba.prog W 0 (fun _ => true) true fuel 22 [.slice a len cap] = some x) :
    ∃ (nb no : Nat) (inP co : Nat → Bool) (da : Nat → Option Addr) (dn dc bk off : Nat → Nat) (ds : Nat → Nat → Nat), (0 < len → a = some ⟨nb, no, none⟩) ∧ Nodes W len nb no inP co da dn dc bk off ds := by
  by_cases h0 : 0 < len
  · rcases Deep.open_slice Yba.underlying22 h with ⟨hcs, _⟩ | ⟨ad, len', cap', m, n, D, Pl, hcs, _, hl, _, hmm, _, hx⟩
    · simp at hcs; omega
    · simp only [List.cons.injEq, Value.slice.injEq, and_true] at hcs
      obtain ⟨rfl, rfl, rfl⟩ := hcs
      have hm : m = cap := by simpa using hmm
      have each : ∀ i, i < len → ∃ q : Bool × Bool × Option Addr × Nat × Nat × Nat × Nat × (Nat → Nat), W.cell? (ad.add (i * 3)) = some (.bool q.1) ∧ W.cell? (ad.add (i * 3 + 1)) = some (.bool q.2.1) ∧ W.cell? (ad.add (i * 3 + 2)) = some (.slice q.2.2.1 q.2.2.2.1 q.2.2.2.2.1) ∧ Bytes W q.2.2.1 q.2.2.2.1 q.2.2.2.2.2.1 q.2.2.2.2.2.2.1 q.2.2.2.2.2.2.2 := by
        intro i hi
        obtain ⟨cs, h1, h2⟩ := hx i (by omega)
        rw [show Yba.prog.cellsOf 26 = 3 by kernel_rfl] at h1
        obtain ⟨_, hlen, hcell⟩ := World.cells?_some h1
        obtain ⟨y0, y1, y2, k, _, _, g0, g1, g2⟩ := Deep.trod_struct3 Yba.underlying26 h2
        match cs, hlen with
        | [v0, v1, v2], _ =>
          simp only [show Yba.prog.cellsOf 24 = 1 by kernel_rfl, show Yba.prog.cellsOf 4 = 1 by kernel_rfl, List.drop_zero, List.drop_succ_cons, List.take_succ_cons, List.take_zero] at g0 g1 g2
          obtain ⟨b0, e0, _⟩ := DataW.trod_bool Yba.underlying4 g0
          obtain ⟨b1, e1, _⟩ := DataW.trod_bool Yba.underlying4 g1
          obtain ⟨sa, sl, sc, e2⟩ : ∃ sa sl sc, v2 = .slice sa sl sc := by
            rcases open_ints Yba.underlying24 Yba.underlying5 (by kernel_rfl) g2 with ⟨hcs, _⟩ | ⟨ad', l, c, zs, hcs, _⟩
            · simp only [List.cons.injEq, and_true] at hcs; exact ⟨_, _, _, hcs⟩
            · simp only [List.cons.injEq, and_true] at hcs; exact ⟨_, _, _, hcs⟩
          have c0 := hcell 0 (by omega)
          have c1 := hcell 1 (by omega)
          have c2 := hcell 2 (by omega)
          rw [Deep.add_add] at c0 c1 c2
          simp only [List.cons.injEq, and_true] at e0 e1
          subst e0 e1 e2
          obtain ⟨b, off, xs, hB⟩ := bytes_arg g2
          exact ⟨(b0, b1, sa, sl, sc, b, off, xs), by simpa using c0, by simpa using c1, by simpa using c2, hB⟩
      obtain ⟨q, hq⟩ := Deep.choose_lt each
      have hc0 := (hq 0 h0).1
      obtain ⟨b, off, spot⟩ := ad
      have hspot : spot = none := by simpa [Addr.add] using World.cell?_spot hc0
      subst hspot
      refine ⟨b, off, fun i => (q i).2.1, fun i => (q i).1, fun i => (q i).2.2.1, fun i => (q i).2.2.2.1, fun i => (q i).2.2.2.2.1, fun i => (q i).2.2.2.2.2.1, fun i => (q i).2.2.2.2.2.2.1, fun i => (q i).2.2.2.2.2.2.2, fun _ => rfl, fun i hi => ?_, fun i hi => ?_, fun i hi => ?_, fun i hi => (hq i hi).2.2.2.ad, fun i hi => (hq i hi).2.2.2.cd, fun i hi => (hq i hi).2.2.2.le⟩
      · have := (hq i hi).1; rwa [add_plain] at this
      · have := (hq i hi).2.1; rwa [add_plain] at this
      · have := (hq i hi).2.2.1; rwa [add_plain] at this
  · exact ⟨0, 0, fun _ => false, fun _ => false, fun _ => none, fun _ => 0, fun _ => 0, fun _ => 0, fun _ => 0, fun _ _ => 0, fun h => absurd h h0, fun i hi => absurd hi (by omega), fun i hi => absurd hi (by omega), fun i hi => absurd hi (by omega), fun i hi => absurd hi (by omega), fun i hi => absurd hi (by omega), fun i hi => absurd hi (by omega)⟩

set_option maxRecDepth 100000 in
theorem lifted (os : Os) (started : os.Started) (H : Type) (enc : TypeId × Value → H) :
    ReturnsInHanded {} Yba.checked os 3 .any (Rows.lawS4722ABlockedSpec.pre6 enc Yba.prog Yba.f3 Rows.lawS4722ABlockedRow.domain false) (Rows.lawS4722ABlockedSpec.post enc Yba.prog Yba.f3 false true false false) := by
  refine returnsInHanded_of_change (C := Yba.checked) own started (by kernel_rfl) Yba.func3
    (ChangeSpec.witness6 (enc := enc) (C := Yba.checked) false ⟨#[], #[.slice none 0 0, .slice none 0 0, .slice none 0 0, .slice none 0 0], []⟩ 8 (by kernel_rfl) (by kernel_rfl) (by kernel_rfl) (by kernel_rfl)) ?_
  intro W base args ds gs before hval0 hW hcnd _
  have hval : ∀ (j : Nat) t v, Yba.f3.params[j]? = some t → args[j]? = some v → Value.okWide Yba.prog W .any base t v := hval0
  have hW' := hW
  obtain ⟨p, q, hA0, hV, rfl, hfz, hnd⟩ := hW
  have hA : DataW.TrodAll enc Yba.prog W 0 (fun _ => true) true Yba.f3.params.toList args.toList ds p := hA0
  rw [Yba.params3] at hA hval
  obtain ⟨v0, vs0, d0, ds0, p0, q0, hargs, rfl, rfl, h0, r0⟩ := trodAll_cons hA
  obtain ⟨v1, vs1, d1, ds1, p1, q1, rfl, rfl, rfl, h1, r1⟩ := trodAll_cons r0
  obtain ⟨v2, vs2, d2, ds2, p2, q2, rfl, rfl, rfl, h2, r2⟩ := trodAll_cons r1
  obtain ⟨v3, vs3, d3, ds3, p3, q3, rfl, rfl, rfl, h3, r3⟩ := trodAll_cons r2
  obtain ⟨rfl, rfl, rfl⟩ := trodAll_nil r3
  obtain rfl : args = #[v0, v1, v2, v3] := by cases args; simp_all
  obtain ⟨rfl, rfl⟩ := trodVars_none hV
  obtain ⟨a0, len0, cap0, rfl⟩ := okWide_slice Yba.underlying22 (hval 0 22 v0 rfl rfl)
  obtain ⟨a1, len1, cap1, rfl⟩ := okWide_slice Yba.underlying23 (hval 1 23 v1 rfl rfl)
  obtain ⟨a2, len2, cap2, rfl⟩ := okWide_slice Yba.underlying24 (hval 2 24 v2 rfl rfl)
  obtain ⟨a3, len3, cap3, rfl⟩ := okWide_slice Yba.underlying24 (hval 3 24 v3 rfl rfl)
  have k0 := h0
  have k1 := h1
  have k2 := h2
  have k3 := h3
  have lt0 : ∀ x ∈ p0, x.block < W.heap.size := by obtain ⟨m, hm⟩ := k0; exact DataW.trod_lt m _ _ _ hm
  have lt1 : ∀ x ∈ p1, x.block < W.heap.size := by obtain ⟨m, hm⟩ := k1; exact DataW.trod_lt m _ _ _ hm
  have lt2 : ∀ x ∈ p2, x.block < W.heap.size := by obtain ⟨m, hm⟩ := k2; exact DataW.trod_lt m _ _ _ hm
  have lt3 : ∀ x ∈ p3, x.block < W.heap.size := by obtain ⟨m, hm⟩ := k3; exact DataW.trod_lt m _ _ _ hm
  clear hA0 hval0
  have walk : Calls Yba.prog 3 #[.slice a0 len0 cap0, .slice a1 len1 cap1, .slice a2 len2 cap2, .slice a3 len3 cap3] W fun e w' => e = .returned (.bool true) ∧ Below W.heap.size W w' := by
    obtain ⟨f0, g0⟩ := h0
    obtain ⟨f1, g1⟩ := h1
    obtain ⟨f2, g2⟩ := h2
    obtain ⟨f3, g3⟩ := h3
    obtain ⟨nb, no, inP, co, da, dn, dc, bk, off, ds, hna, hN⟩ := nodes_arg (by simpa [Value.cells] using g0)
    obtain ⟨vb, vo, vs, vp, hV⟩ := workers_arg (by simpa [Value.cells] using g1)
    obtain ⟨yb, yo, ys, hY⟩ := bytes_arg (by simpa [Value.cells] using g2)
    obtain ⟨qb, qo, xs, hQ⟩ := bytes_arg (by simpa [Value.cells] using g3)
    exact law_walk len0 cap0 nb no len3 cap3 qb qo len1 cap1 vb vo len2 cap2 yb yo a0 a3 a1 a2 xs vs ys vp inP co da dn dc bk off ds W hna hN hQ hV hY
  refine walk.mono fun e W' ⟨he, bel⟩ => ?_
  subst he
  exact ⟨_, rfl, _, _, _, [], _, [], hW', trodAll_mk1 (shut_bool Yba.underlying4 _), (trodAll_cons_mk (Below.trod laidOut (by kernel_rfl) (of_decide_eq_true (by kernel_rfl)) k0 bel lt0) (trodAll_cons_mk (Below.trod laidOut (by kernel_rfl) (of_decide_eq_true (by kernel_rfl)) k1 bel lt1) (trodAll_cons_mk (Below.trod laidOut (by kernel_rfl) (of_decide_eq_true (by kernel_rfl)) k2 bel lt2) (trodAll_cons_mk (Below.trod laidOut (by kernel_rfl) (of_decide_eq_true (by kernel_rfl)) k3 bel lt3) trodAll_mk0)))), rfl, bel.frame _, fun h => by cases h⟩

theorem over : Rows.lawS4722ABlockedRow.holds Yba.pinned (OpenSpec.ofChange Rows.lawS4722ABlockedSpec) :=
  OpenClaim.holds_of_wide 3 Yba.f3 rfl rfl rfl rfl rfl rfl rfl ⟨rfl, rfl, rfl, rfl, rfl⟩ rfl rfl rfl rfl rfl (by kernel_rfl) Yba.func3 (by kernel_rfl)
    (of_decide_eq_true (by kernel_rfl)) (by unfold Func.isWrapper; first | (rw [if_pos (by decide +kernel)]; kernel_rfl) | (rw [if_neg (by decide +kernel)]; exact ⟨rfl, rfl⟩))
    (fun os started H enc _ => lifted os started H enc)

/-- THE STATEMENT -/
theorem proved : Rows.LawS4722ABlockedSaid := over
#print axioms proved
end Go.Proofs.Ybulkcstq.lawS4722ABlocked
