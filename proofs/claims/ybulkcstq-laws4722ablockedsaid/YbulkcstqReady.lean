/-
  OUR OWN. 'ready' (function 11): every dependency's entry is complete.
-/
import Derived.Test.YbulkcstqRows
import Derived.Test.YbulkcstqMapw
import Derived.WalkKit
namespace Go.Proofs.Ybulkcstq
open Go.RowKit Go.Maps Go.WideMaps

theorem law9 : Keyed Yba.prog 9 := string_keyed Yba.underlying9

/-- A subtask: in the plan or not, its dependencies, complete or not; all else at nought. -/
abbrev subV (p : Bool) (ds : Value) (c : Bool) : Value :=
  .agg #[.pointer none, .int .i64 0, .int .u64 0, .int .i64 0, .pointer none, .bool false, .int .u64 0, .int .i64 0, .pointer none, .int .u64 0, .int .i64 0, .pointer none, .bool p, ds, .bool c, .pointer none, .pointer none]

theorem zero40 (w : World) : (zeroValue 40).run Yba.prog w = .ok (subV false (.slice none 0 0) false) w := by kernel_rfl

theorem field6 (p : Bool) (ds : Value) (c : Bool) (w : World) : (Instr.field 40 (subV p ds c) 6).run Yba.prog w = .ok (.bool c) w := by kernel_rfl
theorem field4 (p : Bool) (ds : Value) (c : Bool) (w : World) : (Instr.field 40 (subV p ds c) 4).run Yba.prog w = .ok (.bool p) w := by kernel_rfl

/-- What a map of subtasks holds. -/
abbrev Plan := List UInt8 → Option (Bool × Value × Bool)
def planV (g : Plan) (l : List UInt8) : Option Value := (g l).map fun x => subV x.1 x.2.1 x.2.2
abbrev planAt (g : Plan) (l : List UInt8) : Bool × Value × Bool := (g l).getD (false, .slice none 0 0, false)

theorem planV_at (g : Plan) (l : List UInt8) : (planV g l).getD (subV false (.slice none 0 0) false) = subV (planAt g l).1 (planAt g l).2.1 (planAt g l).2.2 := by
  unfold planV
  cases h : g l <;> simp [planAt, h]

def doneB (g : Plan) (s : ByteArray) : Bool := (planAt g s.data.toList).2.2
def readyB (g : Plan) (ss : List ByteArray) : Bool := ss.all (doneB g)

theorem ret_bool {a b : Bool} (h : a = b) : Ending.returned (.bool a) = .returned (.bool b) := by rw [h]
theorem hide {p : Prop} (h : p) : Hid p := h
theorem string_inj (x y : List UInt8) (h : Lit.string x = Lit.string y) : x = y := by cases h; rfl

theorem ready_no {g : Plan} {ss : List ByteArray} {s : ByteArray} (hm : s ∈ ss) (hd : doneB g s = (planAt g s.data.toList).2.2) (h : (!(planAt g s.data.toList).2.2) = true) : readyB g ss = false := by
  unfold readyB
  rw [List.all_eq_false]
  exact ⟨s, hm, by rw [hd]; simpa using h⟩

theorem ready_snoc {g : Plan} {ss : List ByteArray} {s : ByteArray} (hr : readyB g ss = true) (hd : doneB g s = (planAt g s.data.toList).2.2) (h : (!(planAt g s.data.toList).2.2) = false) : readyB g (ss ++ [s]) = true := by
  unfold readyB at *
  rw [List.all_append, hr]
  simp only [List.all_cons, List.all_nil, hd]
  simpa using h

set_option maxRecDepth 100000 in
set_option maxHeartbeats 400000 in
theorem ready_any (S B sz b len cap : Nat) (g : Plan) (ss : List ByteArray) (p0 c0 : Bool) (w : World)
    (hS : w.cell? ⟨S, 3, none⟩ = some (.map (some B))) (hm : HasMap w Yba.prog 9 Lit.string B sz (planV g)) (hl : ss.length = len) (hl2 : len ≤ 1024)
    (hc : ∀ i, i < len → w.cell? ⟨b, i, none⟩ = some (.string (ss.getD i ByteArray.empty))) (hsz : ∀ s ∈ ss, s.size ≤ maxLen) (hbS : S < w.heap.size) (hbb : b < w.heap.size) :
    Calls Yba.prog 11 #[.pointer (some ⟨S, 0, none⟩), subV p0 (.slice (some ⟨b, 0, none⟩) len cap) c0] w fun e w' => e = .returned (.bool (readyB g ss)) ∧ Below w.heap.size w w' := by
  have hf6 := field6
  have hm1 := fun o => hm.alloc o
  unfold maxLen at hsz
  go_enter Yba.func11, Yba.ntmps11
  go_wp2
  go_loop [10] (fun i => ∃ k : Nat, k ≤ len ∧ i = .int .i64 k ∧ readyB g (ss.take k) = true) (fun i => len - (intOf i).toNat)
  case atStart => exact ⟨0, Nat.zero_le _, rfl, by simp [readyB]⟩
  case round =>
    obtain ⟨k, hk, rfl, hr⟩ := hrel
    have HR := hide hr
    clear hr
    by_cases hlt : k < len
    · obtain ⟨s, hs⟩ : ∃ s, s = ss.getD k ByteArray.empty := ⟨_, rfl⟩
      have hcx : w.cell? ⟨b, k, none⟩ = some (.string s) := by rw [hs]; exact hc k hlt
      have hkey : keyOf Yba.prog 9 (.string s) = some (.string s.data.toList) := keyOf_string_mk Yba.underlying9 (by
        rw [hs, List.getD, List.getElem?_eq_getElem (by omega)]; exact hsz _ (List.getElem_mem _))
      have HS : Hid (ss.take (k + 1) = ss.take k ++ [s]) := by
        rw [hs, List.take_succ_eq_append_getElem (by omega), List.getD, List.getElem?_eq_getElem (by omega)]; rfl
      have HD : Hid (doneB g s = (planAt g s.data.toList).2.2) := rfl
      have HM : Hid (s ∈ ss) := by
        rw [hs, List.getD, List.getElem?_eq_getElem (by omega)]; exact List.getElem_mem _
      clear hs hc hsz
      go_wp2_with (first | (at_lookup; refine wpList_look _ rfl _ _ 27 rfl 9 40 law9 Yba.underlying27 (zero40 _) B sz _ rfl (hm1 _) _ _ rfl hkey _ (planV_at g _) ?_) | fail)
      · have h1 : (!(planAt g s.data.toList).2.2) = true := by assumption
        go_ret
        exact ⟨ret_bool (ready_no HM.out HD.out h1).symm, (Below.refl _ _).alloc (Nat.le_refl _) _⟩
      · have h1 : (!(planAt g s.data.toList).2.2) = false := by assumption
        go_round
        case rel => exact ⟨k + 1, by omega, by go_num, by rw [HS.out]; exact ready_snoc HR.out HD.out h1⟩
        case measure => simp [intOf]; omega
    · go_wp2
      go_ret
      have : k = len := by omega
      subst this
      exact ⟨ret_bool (by have := HR.out; rw [List.take_of_length_le (by omega)] at this; exact this.symm), (Below.refl _ _).alloc (Nat.le_refl _) _⟩
end Go.Proofs.Ybulkcstq
