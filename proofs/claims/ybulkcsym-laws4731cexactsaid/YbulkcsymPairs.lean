/-
  OUR OWN. The pairs that nothing orders, key by key: plain. No Go in it but the cells of one pair.
-/
import Derived.Test.YbulkcsymPrec
namespace Go.Proofs.Ybulkcsym
open Go.RowKit

abbrev Pr := Nat × Nat × Nat
def pOne (pr : Nat → Nat → Bool) (k y z : Nat) : List Pr := if pr y z || pr z y then [] else [(k, y, z)]
def pj (pr : Nat → Nat → Bool) (ws : Nat → List Nat) (k i d : Nat) : List Pr := (List.range d).flatMap fun e => pOne pr k ((ws k).getD i 0) ((ws k).getD (i + 1 + e) 0)
def pi (pr : Nat → Nat → Bool) (ws : Nat → List Nat) (k i : Nat) : List Pr := (List.range i).flatMap fun j => pj pr ws k j ((ws k).length - (j + 1))
def pk (pr : Nat → Nat → Bool) (ws : Nat → List Nat) (k : Nat) : List Pr := (List.range k).flatMap fun k => pi pr ws k (ws k).length
/-- What is listed before key k, place i, the d-th behind it. -/
def pre (pr : Nat → Nat → Bool) (ws : Nat → List Nat) (k i d : Nat) : List Pr := pk pr ws k ++ pi pr ws k i ++ pj pr ws k i d

section
variable {pr : Nat → Nat → Bool} {ws : Nat → List Nat} {k i d : Nat}
theorem pre_start : pre pr ws 0 0 0 = [] := rfl
theorem pre_d : pre pr ws k i (d + 1) = pre pr ws k i d ++ pOne pr k ((ws k).getD i 0) ((ws k).getD (i + 1 + d) 0) := by simp [pre, pj, List.range_succ]
theorem pre_i (h : (ws k).length - (i + 1) = d) : pre pr ws k (i + 1) 0 = pre pr ws k i d := by subst h; simp [pre, pi, pj, List.range_succ]
theorem pre_k (h : (ws k).length = i) : pre pr ws (k + 1) 0 0 = pre pr ws k i 0 := by subst h; simp [pre, pk, pi, pj, List.range_succ]

theorem flat_prefix {α : Type} (f : Nat → List α) {a b : Nat} (h : a ≤ b) : (List.range a).flatMap f <+: (List.range b).flatMap f := by
  obtain ⟨c, rfl⟩ := Nat.exists_eq_add_of_le h
  rw [List.range_add, List.flatMap_append]
  exact List.prefix_append _ _
theorem pre_prefix (hk : k < 4) (hi : i < (ws k).length) (hd : d ≤ (ws k).length - (i + 1)) : pre pr ws k i d <+: pk pr ws 4 := by
  have h1 : pj pr ws k i d <+: pj pr ws k i ((ws k).length - (i + 1)) := flat_prefix _ hd
  have h2 : pi pr ws k (i + 1) <+: pi pr ws k (ws k).length := flat_prefix _ hi
  have h3 : pk pr ws (k + 1) <+: pk pr ws 4 := flat_prefix _ hk
  have e2 : pi pr ws k (i + 1) = pi pr ws k i ++ pj pr ws k i ((ws k).length - (i + 1)) := by simp [pi, List.range_succ]
  have e3 : pk pr ws (k + 1) = pk pr ws k ++ pi pr ws k (ws k).length := by simp [pk, List.range_succ]
  rw [e2] at h2
  rw [e3] at h3
  unfold pre
  rw [List.append_assoc]
  refine List.IsPrefix.trans ((List.prefix_append_right_inj _).2 ?_) h3
  exact List.IsPrefix.trans ((List.prefix_append_right_inj _).2 h1) h2

theorem flat_len {α : Type} (f : Nat → List α) (c : Nat) : ∀ a, (∀ j, j < a → (f j).length ≤ c) → ((List.range a).flatMap f).length ≤ a * c
  | 0, _ => by simp
  | a + 1, h => by
    have h1 := flat_len f c a fun j hj => h j (by omega)
    have h2 := h a (by omega)
    rw [List.range_succ, List.flatMap_append, List.length_append, Nat.add_mul, List.flatMap_singleton]
    omega
theorem pOne_len (y z : Nat) : (pOne pr k y z).length ≤ 1 := by unfold pOne; split <;> simp
theorem pj_len (pr : Nat → Nat → Bool) (ws : Nat → List Nat) (k i d : Nat) : (pj pr ws k i d).length ≤ d := by
  have := flat_len (fun e => pOne pr k ((ws k).getD i 0) ((ws k).getD (i + 1 + e) 0)) 1 d fun j _ => pOne_len _ _
  simp only [Nat.mul_one] at this
  exact this
theorem pi_len (hw : ∀ k, k < 4 → (ws k).length ≤ 300) (hk : k < 4) (i : Nat) : (pi pr ws k i).length ≤ i * 300 :=
  flat_len _ 300 i fun j _ => Nat.le_trans (pj_len pr ws k j _) (by have := hw k hk; omega)
theorem pk_len (hw : ∀ k, k < 4 → (ws k).length ≤ 300) (hk : k ≤ 4) : (pk pr ws k).length ≤ k * 90000 :=
  flat_len _ 90000 k fun j hj => Nat.le_trans (pi_len hw (by omega) _) (by have := hw j (by omega); omega)
theorem pre_len (hw : ∀ k, k < 4 → (ws k).length ≤ 300) (hk : k < 4) (hi : i ≤ 300) (hd : d ≤ 300) : (pre pr ws k i d).length ≤ 500000 := by
  have h1 := pj_len pr ws k i d
  have h2 := pi_len (pr := pr) hw hk i
  have h3 := pk_len (pr := pr) hw (k := k) (by omega)
  simp only [pre, List.length_append]
  omega
end

/-- The cells of one pair. -/
def pairC (p : Pr) : List Value := [.int .i64 5, .int .i64 0, .int .i64 p.1, .int .i64 0, .int .i64 p.2.1, .int .i64 p.2.2, .int .i64 0]
theorem pairs_length (l : List Pr) : (l.flatMap pairC).length = l.length * 7 := by
  induction l with
  | nil => rfl
  | cons a l ih => simp [ih, pairC]; omega
theorem pairs_at : ∀ (l : List Pr) (m : Nat) (p : Pr), l[m]? = some p → ∀ j, j < 7 → (l.flatMap pairC)[m * 7 + j]? = (pairC p)[j]?
  | [], _, _, h, _, _ => by simp at h
  | a :: l, 0, p, h, j, hj => by
    simp at h
    subst h
    rw [List.flatMap_cons, Nat.zero_mul, Nat.zero_add, List.getElem?_append_left (by simpa [pairC] using hj)]
  | a :: l, m + 1, p, h, j, hj => by
    simp at h
    rw [List.flatMap_cons, List.getElem?_append_right (by simp [pairC]; omega), ← pairs_at l m p h j hj]
    congr 1
    simp [pairC]
    omega

theorem oprecedes (cb pb a b : Nat) (w : World) (r : Bool)
    (hC : ∀ wq : World, Below w.heap.size w wq → Calls Yba.prog 25 #[.pointer (some ⟨cb, 0, none⟩), .pointer (some ⟨pb, 0, none⟩), .int .i64 a, .int .i64 b] wq fun e w' => e = .returned (.bool r) ∧ ∃ m, w' = wq.drewN m) :
    Calls Yba.prog 21 #[.agg #[.pointer (some ⟨cb, 0, none⟩), .slice none 0 0, .pointer (some ⟨pb, 0, none⟩), .slice none 0 0], .int .i64 a, .int .i64 b] w fun e w' => e = .returned (.bool r) ∧ Below w.heap.size w w' := by
  have HC := hide hC
  clear hC
  go_enter Yba.func21, Yba.ntmps21
  go_wp2_with fail
  refine (HC.out _ ((Below.refl _ _).alloc (Nat.le_refl _) _)).mono ?_
  rintro e w' ⟨rfl, m, rfl⟩
  go_wp2
  go_ret
  exact ⟨rfl, below_drewN ((Below.refl _ _).alloc (Nat.le_refl _) _) _⟩
end Go.Proofs.Ybulkcsym
