/-
  OUR OWN. 'LawS4722ABlocked' (function 3): its head.
-/
import Derived.Test.YbulkcstqA4
namespace Go.Proofs.Ybulkcstq
open Go.RowKit

theorem Nodes.cut {w : World} {n m nb no : Nat} {inP co : Nat → Bool} {da : Nat → Option Addr} {dn dc bk off : Nat → Nat} {ds : Nat → Nat → Nat} (h : Nodes w n nb no inP co da dn dc bk off ds) (hm : m ≤ n) : Nodes w m nb no inP co da dn dc bk off ds :=
  ⟨fun i hi => h.c0 i (by omega), fun i hi => h.c1 i (by omega), fun i hi => h.c2 i (by omega), fun i hi => h.ad i (by omega), fun i hi => h.cd i (by omega), fun i hi => h.le i (by omega)⟩

set_option maxRecDepth 100000 in
set_option maxHeartbeats 4000000 in
theorem law_walk (nl nc nb no nr qc qb qo nw vc vb vo nt yc yb yo : Nat) (na qa va ya : Option Addr) (xs vs ys : Nat → Nat) (vp : Nat → Bool) (inP co : Nat → Bool) (da : Nat → Option Addr) (dn dc bk off : Nat → Nat) (ds : Nat → Nat → Nat) (w : World)
    (hna : 0 < nl → na = some ⟨nb, no, none⟩) (hN : Nodes w nl nb no inP co da dn dc bk off ds) (hQ : Bytes w qa nr qb qo xs) (hV : WArg w va nw vb vo vs vp) (hY : Bytes w ya nt yb yo ys) :
    Calls Yba.prog 3 #[.slice na nl nc, .slice va nw vc, .slice ya nt yc, .slice qa nr qc] w fun e w' => e = .returned (.bool true) ∧ Below w.heap.size w w' := by
  by_cases h1 : 1024 < nw
  · have t1 : decide ((1024 : Int) < (nw : Int)) = true := decide_eq_true (by omega)
    clear hN hQ hV hY hna
    go_enter Yba.func3, Yba.ntmps3
    go_wp2
    go_ret
    exact ⟨rfl, Below.refl _ _⟩
  have t1 : decide ((1024 : Int) < (nw : Int)) = false := decide_eq_false (by omega)
  by_cases h2 : 1024 < nt
  · have t2 : decide ((1024 : Int) < (nt : Int)) = true := decide_eq_true (by omega)
    clear hN hQ hV hY hna
    go_enter Yba.func3, Yba.ntmps3
    go_wp2
    go_ret
    exact ⟨rfl, Below.refl _ _⟩
  have t2 : decide ((1024 : Int) < (nt : Int)) = false := decide_eq_false (by omega)
  by_cases h3 : 1024 < nr
  · have t3 : decide ((1024 : Int) < (nr : Int)) = true := decide_eq_true (by omega)
    clear hN hQ hV hY hna
    go_enter Yba.func3, Yba.ntmps3
    go_wp2
    go_ret
    exact ⟨rfl, Below.refl _ _⟩
  have t3 : decide ((1024 : Int) < (nr : Int)) = false := decide_eq_false (by omega)
  obtain ⟨n, hn⟩ : ∃ n, n = min nl 8 := ⟨_, rfl⟩
  have hn8 : n ≤ 8 := by omega
  have hnl : n ≤ nl := by omega
  have HMIN := hide hn
  have HN := hide hN
  have HQ := hide hQ
  have HV := hide hV
  have HY := hide hY
  have HNA := hide hna
  clear hn hN hQ hV hY hna
  go_enter Yba.func3, Yba.ntmps3
  go_upto_if 67 with fail
  go_cut [9] (fun v wz => v = .int .i64 (n : Int) ∧ wz = w)
  case first =>
    by_cases h8 : 8 < nl
    · have t4 : decide ((8 : Int) < (nl : Int)) = true := decide_eq_true (by omega)
      go_wp2_with fail
      go_meet
      case rel =>
        obtain rfl : n = 8 := by have := HMIN.out; omega
        exact ⟨rfl, rfl⟩
    · have t4 : decide ((8 : Int) < (nl : Int)) = false := decide_eq_false (by omega)
      go_wp2_with fail
      go_meet
      case rel =>
        obtain rfl : n = nl := by have := HMIN.out; omega
        exact ⟨rfl, rfl⟩
  case rest =>
  obtain ⟨rfl, rfl⟩ := hcut
  exact tail4 wc _ (by assumption) n nl nc nb no nr qc qb qo nw vc vb vo nt yc yb yo na qa va ya xs vs ys vp inP co da dn dc bk off ds (fun h => HNA.out (by omega)) hnl hn8 (HN.out.cut hnl) HQ.out HV.out HY.out (by omega) (by omega) (by omega)
end Go.Proofs.Ybulkcstq
