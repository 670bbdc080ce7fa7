/-
  FnEqualFoldMatchesFoldPairsAtAnyCut (3): the walk, its callees' answers given.
-/
import Derived.Test.Qxb6621683aFold
import Derived.Deep.RegionWith
namespace Go.Proofs.Qxb6621683a.Asc
open Go.ChangeShapes Go.WideShapes Go.ChangeAt Go.RowKit

theorem drewN_trans {w w1 w2 : World} (h : ∃ n, w1 = w.drewN n) (h' : ∃ n, w2 = w1.drewN n) : ∃ n, w2 = w.drewN n := by
  obtain ⟨n, rfl⟩ := h
  obtain ⟨m, rfl⟩ := h'
  exact ⟨n + m, World.drewN_drewN _ _ _⟩

set_option maxHeartbeats 1000000 in
/-- the cut does not fit -/
theorem walk_out (a b : ByteArray) (k : Int) (g : Bool) (w : World) (hA : a.size ≤ maxLen) (hB : b.size ≤ maxLen) (s0 : a.size ≤ 65536) (s1 : b.size ≤ 65536)
    (HG : Hid (∀ W, Calls Try.prog 6 #[.string a, .string b] W fun e w' => e = .returned (.bool g) ∧ ∃ n, w' = W.drewN n))
    (HM : Hid (∀ W, Calls Try.prog 7 #[.string a, .string b] W fun e w' => e = .returned (.bool g) ∧ ∃ n, w' = W.drewN n))
    (HC : Hid (∀ W, Calls Try.prog 6 #[.string b, .string a] W fun e w' => e = .returned (.bool g) ∧ ∃ n, w' = W.drewN n))
    (hk : k < 0 ∨ (a.size : Int) < k ∨ (b.size : Int) < k) :
    Calls Try.prog 3 #[.string a, .string b, .int .i64 k] w fun e w' => e = .returned (.bool true) ∧ ∃ n, w' = w.drewN n := by
  go_enter Try.func3, Try.ntmps3
  go_wp2_with fail
  refine (bytes5 a b _ _ hA hB).mono ?_
  rintro e w' ⟨⟨r, rfl⟩, rfl⟩
  cases r
  · go_wp2_with fail
    go_ret
    exact ⟨rfl, 0, rfl⟩
  · go_wp2_with fail
    refine (HG.out _).mono ?_
    rintro e w1 ⟨rfl, hw1⟩
    have HW1 : Hid (∃ n, w1 = w'.drewN n) := hw1
    clear hw1
    go_wp2_with fail
    refine (HM.out _).mono ?_
    rintro e w2 ⟨rfl, hw2⟩
    have HW2 : Hid (∃ n, w2 = w'.drewN n) := drewN_trans HW1.out hw2
    clear hw2 HW1
    go_wp2_with fail
    refine (HC.out _).mono ?_
    rintro e w3 ⟨rfl, hw3⟩
    have HW3 : Hid (∃ n, w3 = w'.drewN n) := drewN_trans HW2.out hw3
    clear hw3 HW2
    go_wp2_with fail
    all_goals
      go_ret
      exact ⟨rfl, HW3.out⟩

set_option maxHeartbeats 1000000 in
/-- the two prefixes part -/
theorem walk_no (a b : ByteArray) (m : Nat) (g : Bool) (w : World) (hA : a.size ≤ maxLen) (hB : b.size ≤ maxLen) (s0 : a.size ≤ 65536) (s1 : b.size ≤ 65536)
    (HG : Hid (∀ W, Calls Try.prog 6 #[.string a, .string b] W fun e w' => e = .returned (.bool g) ∧ ∃ n, w' = W.drewN n))
    (HM : Hid (∀ W, Calls Try.prog 7 #[.string a, .string b] W fun e w' => e = .returned (.bool g) ∧ ∃ n, w' = W.drewN n))
    (HC : Hid (∀ W, Calls Try.prog 6 #[.string b, .string a] W fun e w' => e = .returned (.bool g) ∧ ∃ n, w' = W.drewN n))
    (ma : m ≤ a.size) (mb : m ≤ b.size) (hg : g = false) (HP : Hid (∀ W, Calls Try.prog 6 #[.string (a.extract 0 m), .string (b.extract 0 m)] W fun e w' => e = .returned (.bool false) ∧ ∃ n, w' = W.drewN n)) :
    Calls Try.prog 3 #[.string a, .string b, .int .i64 (m : Int)] w fun e w' => e = .returned (.bool true) ∧ ∃ n, w' = w.drewN n := by
  subst hg
  have i0 : (0 : Int) ≤ m := by omega
  have i1 : (m : Int) ≤ a.size := by omega
  have i2 : (m : Int) ≤ b.size := by omega
  go_enter Try.func3, Try.ntmps3
  go_wp2_with fail
  refine (bytes5 a b _ _ hA hB).mono ?_
  rintro e w' ⟨⟨r, rfl⟩, rfl⟩
  cases r
  · go_wp2_with fail
    go_ret
    exact ⟨rfl, 0, rfl⟩
  · go_wp2_with fail
    refine (HG.out _).mono ?_
    rintro e w1 ⟨rfl, hw1⟩
    have HW1 : Hid (∃ n, w1 = w'.drewN n) := hw1
    clear hw1
    go_wp2_with fail
    refine (HM.out _).mono ?_
    rintro e w2 ⟨rfl, hw2⟩
    have HW2 : Hid (∃ n, w2 = w'.drewN n) := drewN_trans HW1.out hw2
    clear hw2 HW1
    go_wp2_with fail
    refine (HC.out _).mono ?_
    rintro e w3 ⟨rfl, hw3⟩
    have HW3 : Hid (∃ n, w3 = w'.drewN n) := drewN_trans HW2.out hw3
    clear hw3 HW2
    go_wp2_with fail
    go_quiet (first | (go_at_call 6; refine Calls.quiet_of (HP.out _)))
    go_wp2_with fail
    go_ret
    exact ⟨rfl, drewN_trans HW3.out ⟨_, rfl⟩⟩

set_option maxHeartbeats 1000000 in
/-- the two prefixes agree -/
theorem walk_yes (a b : ByteArray) (m : Nat) (g : Bool) (w : World) (hA : a.size ≤ maxLen) (hB : b.size ≤ maxLen) (s0 : a.size ≤ 65536) (s1 : b.size ≤ 65536)
    (HG : Hid (∀ W, Calls Try.prog 6 #[.string a, .string b] W fun e w' => e = .returned (.bool g) ∧ ∃ n, w' = W.drewN n))
    (HM : Hid (∀ W, Calls Try.prog 7 #[.string a, .string b] W fun e w' => e = .returned (.bool g) ∧ ∃ n, w' = W.drewN n))
    (HC : Hid (∀ W, Calls Try.prog 6 #[.string b, .string a] W fun e w' => e = .returned (.bool g) ∧ ∃ n, w' = W.drewN n))
    (ma : m ≤ a.size) (mb : m ≤ b.size) (HP : Hid (∀ W, Calls Try.prog 6 #[.string (a.extract 0 m), .string (b.extract 0 m)] W fun e w' => e = .returned (.bool true) ∧ ∃ n, w' = W.drewN n)) (HQ : Hid (∀ W, Calls Try.prog 6 #[.string (a.extract m a.size), .string (b.extract m b.size)] W fun e w' => e = .returned (.bool g) ∧ ∃ n, w' = W.drewN n)) :
    Calls Try.prog 3 #[.string a, .string b, .int .i64 (m : Int)] w fun e w' => e = .returned (.bool true) ∧ ∃ n, w' = w.drewN n := by
  have i0 : (0 : Int) ≤ m := by omega
  have i1 : (m : Int) ≤ a.size := by omega
  have i2 : (m : Int) ≤ b.size := by omega
  go_enter Try.func3, Try.ntmps3
  go_wp2_with fail
  refine (bytes5 a b _ _ hA hB).mono ?_
  rintro e w' ⟨⟨r, rfl⟩, rfl⟩
  cases r
  · go_wp2_with fail
    go_ret
    exact ⟨rfl, 0, rfl⟩
  · go_wp2_with fail
    refine (HG.out _).mono ?_
    rintro e w1 ⟨rfl, hw1⟩
    have HW1 : Hid (∃ n, w1 = w'.drewN n) := hw1
    clear hw1
    go_wp2_with fail
    refine (HM.out _).mono ?_
    rintro e w2 ⟨rfl, hw2⟩
    have HW2 : Hid (∃ n, w2 = w'.drewN n) := drewN_trans HW1.out hw2
    clear hw2 HW1
    go_wp2_with fail
    refine (HC.out _).mono ?_
    rintro e w3 ⟨rfl, hw3⟩
    have HW3 : Hid (∃ n, w3 = w'.drewN n) := drewN_trans HW2.out hw3
    clear hw3 HW2
    go_wp2_with fail
    go_quiet (first | (go_at_call_of 6 (Value.string (a.extract 0 m)); refine Calls.quiet_of (HP.out _)) | (go_at_call_of 6 (Value.string (a.extract m a.size)); refine Calls.quiet_of (HQ.out _)))
    go_wp2_with fail
    go_ret
    exact ⟨rfl, drewN_trans HW3.out ⟨_, rfl⟩⟩

end Go.Proofs.Qxb6621683a.Asc
