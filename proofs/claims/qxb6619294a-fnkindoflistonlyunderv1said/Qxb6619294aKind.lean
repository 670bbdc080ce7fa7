/-
  The contracts of the functions on the roads of the two laws on kindOf: kindOf (25), ZZKindOf (18), zzForeignAPIVersion (17), zzForeignKindReading (19), the two byte guards (16, 20).
-/
import Derived.Test.Qxb6619294aRows
import Derived.WalkKit
import Derived.OpenShut
import Derived.ShutString
import Derived.ProofKit
namespace Go.Proofs.Qxb6619294a.Kind
open Go.ChangeShapes Go.WideShapes Go.ChangeAt Go.RowKit

/-- how kindOf reads a head: 0 a job, 1 a set, 2 a list, 3 another object -/
def kof (a k : List UInt8) : Int :=
  if k == [74, 111, 98, 83, 101, 116] then 1
  else if k == [74, 111, 98] then 0
  else if a == [106, 111, 98, 115, 101, 116, 46, 120, 45, 107, 56, 115, 46, 105, 111, 47, 118, 49, 97, 108, 112, 104, 97, 50] then 1
  else if a == [98, 97, 116, 99, 104, 47, 118, 49] then (if k == [67, 114, 111, 110, 74, 111, 98] then 3 else 0)
  else if a == [118, 49] && k == [76, 105, 115, 116] then 2
  else if a.isEmpty || k.isEmpty then 0
  else 3

/-- a foreign apiVersion -/
def frn (a : List UInt8) : Bool :=
  !a.isEmpty && !(a == [98, 97, 116, 99, 104, 47, 118, 49]) && !(a == [106, 111, 98, 115, 101, 116, 46, 120, 45, 107, 56, 115, 46, 105, 111, 47, 118, 49, 97, 108, 112, 104, 97, 50]) && !(a == [118, 49])

/-- the foreign reading -/
def rdg (k : List UInt8) : Int :=
  if k == [74, 111, 98, 83, 101, 116] then 1
  else if k == [74, 111, 98] || k.isEmpty then 0
  else 3

theorem kof_frn (a k : List UInt8) (h : frn a = true) : kof a k = rdg k := by
  simp only [frn, Bool.and_eq_true, Bool.not_eq_true'] at h
  obtain ⟨⟨⟨h1, h2⟩, h3⟩, h4⟩ := h
  unfold kof rdg
  by_cases c1 : (k == [74, 111, 98, 83, 101, 116]) = true
  · simp only [c1, if_true]
  · by_cases c2 : (k == [74, 111, 98]) = true
    · simp [c2]
    · simp [c1, c2, h1, h2, h3, h4]

theorem kof_none (k : List UInt8) : kof [] k = if k == [74, 111, 98, 83, 101, 116] then 1 else 0 := by
  unfold kof
  simp

theorem kof_v1_list : kof [118, 49] [76, 105, 115, 116] = 2 := by decide
theorem kof_v1 (k : List UInt8) (h : (k == [76, 105, 115, 116]) = false) : kof [118, 49] k = rdg k := by
  unfold kof rdg
  by_cases c1 : (k == [74, 111, 98, 83, 101, 116]) = true
  · simp only [c1, if_true]
  · by_cases c2 : (k == [74, 111, 98]) = true
    · simp [c2]
    · simp [c1, c2, h]
theorem kof_list_v1 (a : List UInt8) (h : (a == [118, 49]) = true) : kof a [76, 105, 115, 116] = 2 := by
  have : a = [118, 49] := by simpa using h
  subst this
  decide
theorem kof_list (a : List UInt8) (h : (a == [118, 49]) = false) : kof a [76, 105, 115, 116] = kof a [67, 111, 110, 102, 105, 103, 77, 97, 112] := by
  unfold kof
  simp [h]

set_option maxHeartbeats 400000 in
theorem kind_any (a k : ByteArray) (w : World) :
    Calls Try.prog 25 #[.string a, .string k] w fun e w' => e = .returned (.int .i64 (kof a.toList k.toList)) ∧ w' = w := by
  go_enter Try.func25, Try.ntmps25
  go_wp2
  all_goals
    go_ret
    exact ⟨by first | (simp [kof, *]; done) | simp_all [kof], rfl⟩

theorem zzkind_any (a k : ByteArray) (w : World) :
    Calls Try.prog 18 #[.string a, .string k] w fun e w' => e = .returned (.int .i64 (kof a.toList k.toList)) ∧ w' = w := by
  go_enter Try.func18, Try.ntmps18
  go_wp2_with (go_at_call 25; refine (kind_any _ _ _).mono ?_; rintro e w' ⟨rfl, rfl⟩)
  go_ret
  exact ⟨rfl, rfl⟩

theorem zzkind_none (k : ByteArray) (w : World) :
    Calls Try.prog 18 #[.string { data := #[] }, .string k] w fun e w' => e = .returned (.int .i64 (kof [] k.toList)) ∧ w' = w := by
  have h := zzkind_any { data := #[] } k w
  rw [ByteArray.toList_eq { data := #[] }] at h
  exact h

theorem zzkind_v1 (k : ByteArray) (w : World) :
    Calls Try.prog 18 #[.string { data := #[118, 49] }, .string k] w fun e w' => e = .returned (.int .i64 (kof [118, 49] k.toList)) ∧ w' = w := by
  have h := zzkind_any { data := #[118, 49] } k w
  rw [ByteArray.toList_eq { data := #[118, 49] }] at h
  exact h

theorem zzkind_list (a : ByteArray) (w : World) :
    Calls Try.prog 18 #[.string a, .string { data := #[76, 105, 115, 116] }] w fun e w' => e = .returned (.int .i64 (kof a.toList [76, 105, 115, 116])) ∧ w' = w := by
  have h := zzkind_any a { data := #[76, 105, 115, 116] } w
  rw [ByteArray.toList_eq { data := #[76, 105, 115, 116] }] at h
  exact h

theorem zzkind_map (a : ByteArray) (w : World) :
    Calls Try.prog 18 #[.string a, .string { data := #[67, 111, 110, 102, 105, 103, 77, 97, 112] }] w fun e w' => e = .returned (.int .i64 (kof a.toList [67, 111, 110, 102, 105, 103, 77, 97, 112])) ∧ w' = w := by
  have h := zzkind_any a { data := #[67, 111, 110, 102, 105, 103, 77, 97, 112] } w
  rw [ByteArray.toList_eq { data := #[67, 111, 110, 102, 105, 103, 77, 97, 112] }] at h
  exact h

theorem frn_any (a : ByteArray) (w : World) :
    Calls Try.prog 17 #[.string a] w fun e w' => e = .returned (.bool (frn a.toList)) ∧ w' = w := by
  go_enter Try.func17, Try.ntmps17
  go_wp2
  all_goals
    go_ret
    exact ⟨by simp [frn, *], rfl⟩

theorem rdg_any (k : ByteArray) (w : World) :
    Calls Try.prog 19 #[.string k] w fun e w' => e = .returned (.int .i64 (rdg k.toList)) ∧ w' = w := by
  go_enter Try.func19, Try.ntmps19
  go_wp2
  all_goals
    go_ret
    exact ⟨by first | (simp [rdg, *]; done) | simp_all [rdg], rfl⟩

theorem bytes16 (a b k : ByteArray) (w : World) (ha : a.size ≤ maxLen) (hb : b.size ≤ maxLen) (hk : k.size ≤ maxLen) :
    Calls Try.prog 16 #[.string a, .string b, .string k] w fun e w' => (∃ r : Bool, e = .returned (.bool r)) ∧ w' = w := by
  unfold maxLen at ha hb hk
  go_enter Try.func16, Try.ntmps16
  go_wp2
  all_goals
    go_ret
    exact ⟨⟨_, rfl⟩, rfl⟩

theorem bytes20 (a b k : ByteArray) (w : World) (ha : a.size ≤ maxLen) (hb : b.size ≤ maxLen) (hk : k.size ≤ maxLen) :
    Calls Try.prog 20 #[.string a, .string b, .string k] w fun e w' => (∃ r : Bool, e = .returned (.bool r)) ∧ w' = w := by
  unfold maxLen at ha hb hk
  go_enter Try.func20, Try.ntmps20
  go_wp2
  all_goals
    go_ret
    exact ⟨⟨_, rfl⟩, rfl⟩
end Go.Proofs.Qxb6619294a.Kind
