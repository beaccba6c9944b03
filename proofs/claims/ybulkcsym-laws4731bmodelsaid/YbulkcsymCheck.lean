/-
  OUR OWN. 'zzs4731bcheck' (7), 'zzs4731bsame' (11), 'Len' (10), 'Values' (12).
-/
import Derived.Test.YbulkcsymNumb
import Derived.BigQuiet
import Derived.Deep.QuietTactic
namespace Go.Proofs.Ybulkcsym.Numb
open Go.RowKit Go.Maps Go.Proofs.Ybulkcsym

theorem find_any (w : World) (N base : Nat) (d : List Int) (sv mv vv : Value) (n : Nat) (x : Int) (h : Num w N base d d sv mv vv n) (hd : d.length ≤ 1024) (hw : (Lit.int .i64 x).wf = true) :
    Calls Yba.prog 17 #[.pointer (some ⟨N, 0, none⟩), .int .i64 x] w fun e w' => e = .returned (.tuple #[.int .i64 (findN d x), .bool (findB d x)]) ∧ w' = w := by
  by_cases hx : 0 ≤ x ∧ x < 65536
  · obtain ⟨v, rfl⟩ := Int.eq_ofNat_of_zero_le hx.1
    exact find_small w N base d sv mv vv n v h (by omega) hd
  · exact find_large w N base d sv mv vv n x h hx hw

set_option maxHeartbeats 400000 in
theorem check_any (w : World) (N base : Nat) (d : List Int) (sv mv vv dv : Value) (n : Nat) (x : Int) (h : Num w N base d d sv mv vv n) (hr : Reads w dv d) (hd : d.length ≤ 1024) (hw : (Lit.int .i64 x).wf = true) :
    Calls Yba.prog 7 #[.pointer (some ⟨N, 0, none⟩), dv, .int .i64 x] w fun e w' => e = .returned (.bool true) ∧ w' = w := by
  have HF := hide (find_any w N base d sv mv vv n x h hd hw)
  have HX := hide (index_any dv d x w hd hr)
  cases hi : idx d x with
  | none =>
    have e1 : findN d x = 0 := by simp [findN, hi]
    have e2 : findB d x = false := by simp [findB, hi]
    have e3 : idxI d x = -1 := by simp [idxI, hi]
    have HF' := HF.out
    have HX' := HX.out
    rw [e1, e2] at HF'
    rw [e3] at HX'
    have HF2 := hide HF'
    have HX2 := hide HX'
    clear HF HX HF' HX' e1 e2 e3 hi h hr
    go_enter Yba.func7, Yba.ntmps7
    go_wp2_with (first | (go_at_call 17; refine HF2.out.mono ?_; rintro e w' ⟨rfl, rfl⟩) | (go_at_call 8; refine HX2.out.mono ?_; rintro e w' ⟨rfl, rfl⟩))
    go_ret
    exact ⟨rfl, rfl⟩
  | some i =>
    have hil := idx_lt d x i hi
    have e1 : findN d x = i := by simp [findN, hi]
    have e2 : findB d x = true := by simp [findB, hi]
    have e3 : idxI d x = i := by simp [idxI, hi]
    have HF' := HF.out
    have HX' := HX.out
    rw [e1, e2] at HF'
    rw [e3] at HX'
    have HF2 := hide HF'
    have HX2 := hide HX'
    clear HF HX HF' HX' e1 e2 e3 hi h hr
    have h0 : ¬ (i : Int) < 0 := by omega
    go_enter Yba.func7, Yba.ntmps7
    go_wp2_with (first | (go_at_call 17; refine HF2.out.mono ?_; rintro e w' ⟨rfl, rfl⟩) | (go_at_call 8; refine HX2.out.mono ?_; rintro e w' ⟨rfl, rfl⟩))
    go_ret
    exact ⟨rfl, rfl⟩

theorem len_any (w : World) (N base : Nat) (d : List Int) (sv mv vv : Value) (n : Nat) (h : Num w N base d d sv mv vv n) :
    Calls Yba.prog 10 #[.pointer (some ⟨N, 0, none⟩)] w fun e w' => e = .returned (.int .i64 (d.length : Nat)) ∧ w' = w := by
  have c2 : w.cell? ⟨N, 2, none⟩ = some vv := h.self.cell rfl
  obtain ⟨a, c, hv, _, _⟩ := ownsRow_slice h.vals
  rw [hv] at c2
  clear hv
  go_enter Yba.func10, Yba.ntmps10
  go_wp2
  go_ret
  exact ⟨rfl, rfl⟩

theorem values_any (w : World) (N base : Nat) (d : List Int) (sv mv vv : Value) (n : Nat) (h : Num w N base d d sv mv vv n) :
    Calls Yba.prog 12 #[.pointer (some ⟨N, 0, none⟩)] w fun e w' => e = .returned vv ∧ w' = w := by
  have c2 : w.cell? ⟨N, 2, none⟩ = some vv := h.self.cell rfl
  go_enter Yba.func12, Yba.ntmps12
  go_wp2
  go_ret
  exact ⟨rfl, rfl⟩

set_option maxHeartbeats 400000 in
theorem same_any (w : World) (d : List Int) (v1 v2 : Value) (h1 : Reads w v1 d) (h2 : Reads w v2 d) (hd : d.length ≤ 1024) :
    Calls Yba.prog 11 #[v1, v2] w fun e w' => e = .returned (.bool true) ∧ Below w.heap.size w w' := by
  obtain ⟨a1, c1, b1, rfl, ha1, hc1⟩ := h1
  obtain ⟨a2, c2, b2, rfl, ha2, hc2⟩ := h2
  obtain ⟨n, hn⟩ : ∃ n, n = d.length := ⟨_, rfl⟩
  rw [← hn] at ha1 hc1 ha2 hc2 hd ⊢
  clear hn
  go_enter Yba.func11, Yba.ntmps11
  go_wp2
  go_loopw [5] (fun i wr => ∃ k : Nat, k ≤ n ∧ i = .int .i64 k ∧ Below w.heap.size w wr ∧ ∀ a, wr.cell? a = w.cell? a) (fun i _ => n - (intOf i).toNat)
  case atStart => exact ⟨0, Nat.zero_le _, rfl, Below.refl _ _, fun _ => rfl⟩
  case round =>
    obtain ⟨k, hk, rfl, hnx, hsame⟩ := hrel
    by_cases hlt : k < n
    · obtain ⟨y, hy⟩ : ∃ y, y = d.getD k 0 := ⟨_, rfl⟩
      have hx1 : wr.cell? ⟨b1, k, none⟩ = some (.int .i64 y) := by rw [hy, hsame]; exact hc1 k hlt
      have hx2 : wr.cell? ⟨b2, k, none⟩ = some (.int .i64 y) := by rw [hy, hsame]; exact hc2 k hlt
      have hi1 := index_slice Yba.underlying39 size2 ha1 c1 hlt
      have hi2 := index_slice Yba.underlying39 size2 ha2 c2 hlt
      rw [Nat.zero_add] at hi1 hi2
      have hlt' : (k : Int) < (n : Int) := by omega
      have HS := hide hsame
      clear hy hc1 hc2 hsame
      go_wp2
      go_quiet (fail)
      go_wp2
      go_roundw
      case rel => exact ⟨k + 1, by omega, by go_num, below_drewN hnx _, HS.out⟩
      case measure => simp [intOf]; omega
    · clear hsame
      go_wp2
      go_ret
      exact ⟨rfl, hnx⟩
end Go.Proofs.Ybulkcsym.Numb
