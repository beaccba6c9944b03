/-
  OUR OWN. The row that is being sorted, as it lies in memory; 'cmp.Less' at uint64.
-/
import Derived.Test.YbulkcsvuRows
import Derived.Test.YbulkcsvuBlk
import Derived.WalkKit
import Derived.WalkSpells
import Derived.WalkSmall
import Derived.WalkLawsBesides
import Derived.Deep.QuietTactic
import Derived.Sort.AssemblyPlain
import Derived.BigQuiet
import Derived.BigRegion
import Derived.Deep.LoopGhost
import Derived.Deep.DeepCutAuto
import Derived.Deep.RegionLaw
namespace Go.Proofs.Ybulkcsvu
open Go.RowKit

def Hid (p : Prop) : Prop := p
theorem hide {p : Prop} (h : p) : Hid p := h
theorem Hid.out {p : Prop} (h : Hid p) : p := h

abbrev U (x : Int) : Value := .int .u64 x
abbrev lt : Int → Int → Bool := Sort.ltInt

structure SR (B : Nat) (w wr : World) (blk : Nat) (d : Array Int) (sp : List Value) : Prop where
  below : Below B w wr
  le : B ≤ blk
  row : Blk wr blk 41 (d.toList.map U ++ sp)

section
variable {B : Nat} {w wr wq : World} {blk : Nat} {d : Array Int} {sp : List Value}
theorem SR.get (d : Array Int) (sp : List Value) {j : Nat} (hj : j < d.size) : (d.toList.map U ++ sp)[j]? = some (.int .u64 d[j]!) := by
  rw [List.getElem?_append_left (by simpa using hj), List.getElem?_map, List.getElem?_eq_getElem (by simpa using hj)]
  simp [getElem!_pos d j hj]
theorem SR.cell (h : SR B w wr blk d sp) {j : Nat} {x : Int} (hj : j < d.size) (hx : x = d[j]!) : wr.cell? ⟨blk, j, none⟩ = some (.int .u64 x) := by
  subst hx
  exact h.row.cell (SR.get d sp hj)
theorem SR.free (h : SR B w wr blk d sp) (j : Nat) : wr.frozen? ⟨blk, j, none⟩ = false := h.row.free j
theorem SR.drewN (h : SR B w wr blk d sp) (m : Nat) : SR B w (wr.drewN m) blk d sp := ⟨below_drewN h.below m, h.le, h.row⟩
theorem SR.drew (h : SR B w wr blk d sp) : SR B w wr.drew blk d sp := ⟨h.below.drew, h.le, h.row⟩
theorem SR.put (h : SR B w wr blk d sp) (i : Nat) (x : Int) (hi : i < d.size) : SR B w (wr.setCell ⟨blk, i, none⟩ (.int .u64 x)) blk (d.setIfInBounds i x) sp := by
  refine ⟨h.below.setCell h.le _, h.le, ?_⟩
  have := h.row.set i (.int .u64 x)
  rw [List.set_append_left _ _ (by simpa using hi)] at this
  simpa [List.map_set] using this
theorem SR.swp (h : SR B w wr blk d sp) {i j : Nat} {x y : Int} (hi : i < d.size) (hj : j < d.size) (hx : x = d[i]!) (hy : y = d[j]!) :
    SR B w ((wr.setCell ⟨blk, i, none⟩ (.int .u64 y)).setCell ⟨blk, j, none⟩ (.int .u64 x)) blk (Sort.swp d i j) sp := by
  subst hx hy
  exact (h.put i _ hi).put j _ (by simpa using hj)
theorem swp_comm (d : Array Int) (i j : Nat) : Sort.swp d i j = Sort.swp d j i := by
  unfold Sort.swp
  by_cases h : i = j
  · subst h; rfl
  · rw [Array.setIfInBounds_comm _ _ h]
theorem SR.swp' (h : SR B w wr blk d sp) {i j : Nat} {x y : Int} (hi : i < d.size) (hj : j < d.size) (hx : x = d[i]!) (hy : y = d[j]!) :
    SR B w ((wr.setCell ⟨blk, j, none⟩ (.int .u64 x)).setCell ⟨blk, i, none⟩ (.int .u64 y)) blk (Sort.swp d i j) sp := by
  rw [swp_comm]
  exact h.swp hj hi hy hx
end

theorem wrapN (k : Nat) (h : k ≤ 1000000) : IntKind.i64.wrap ((k : Nat) : Int) = (k : Nat) := by
  simp only [IntKind.wrap, IntKind.bits, IntKind.signed]
  have h1 : ((k : Nat) : Int) % 2 ^ 64 = (k : Nat) := by omega
  simp only [h1]
  rw [if_neg]
  simp
  omega

theorem nan (x : Int) (w : World) : Calls Yba.prog 41 #[.int .u64 x] w fun e w' => e = .returned (.bool false) ∧ w' = w := by
  go_enter Yba.func41, Yba.ntmps41
  go_wp2
  go_ret
  exact ⟨by simp, rfl⟩

set_option maxHeartbeats 1000000 in
theorem less (x y : Int) (w : World) : Calls Yba.prog 31 #[.int .u64 x, .int .u64 y] w fun e w' => e = .returned (.bool (lt x y)) ∧ ∃ m, w' = w.drewN m := by
  have HN := hide fun x w => nan x w
  go_enter Yba.func31, Yba.ntmps31
  go_wp2_with fail
  refine (HN.out x w).mono ?_
  rintro e w' ⟨rfl, rfl⟩
  go_wp2
  go_ret
  exact ⟨rfl, 0, rfl⟩
end Go.Proofs.Ybulkcsvu
