/-
  FnMatchesOperatorSisters: the plain model (a []string as a function on places), and the contracts of the functions that only read: zzContains (15), slices.Index (28), slices.Contains (27), zzLookup (12), zzAddStrings (9).
-/
import Derived.Test.Qxb6619294aRows
import Derived.WalkKit
import Derived.ProofKit
import Derived.OpenShut
import Derived.ShutString
import Derived.Below
namespace Go.Proofs.Qxb6619294a.Sel
open Go.ChangeShapes Go.WideShapes Go.ChangeAt Go.RowKit

/-- is x among the first n? -/
def hasN (S : Nat → ByteArray) (x : List UInt8) : Nat → Bool
  | 0 => false
  | n + 1 => hasN S x n || ((S n).toList == x)

/-- the value of the last pair among the first n whose key is x -/
def lookN (K V : Nat → ByteArray) (x : List UInt8) : Nat → Option ByteArray
  | 0 => none
  | n + 1 => if (K n).toList == x then some (V n) else lookN K V x n

theorem hasN_of (S : Nat → ByteArray) (x : List UInt8) (k : Nat) (h : ((S k).toList == x) = true) : ∀ n, k < n → hasN S x n = true
  | 0, hk => absurd hk (Nat.not_lt_zero _)
  | n + 1, hk => by
    unfold hasN
    by_cases e : k = n
    · subst e; rw [h]; simp
    · rw [hasN_of S x k h n (by omega)]; rfl
theorem hasN_succ (S : Nat → ByteArray) (x : List UInt8) (k : Nat) (h0 : hasN S x k = false) (h : ((S k).toList == x) = false) : hasN S x (k + 1) = false := by
  unfold hasN; rw [h0, h]; rfl

/-- w holds, at a, len strings: S 0 .. S (len - 1) -/
def StrSl (w : World) (a : Option Addr) (len : Nat) (S : Nat → ByteArray) : Prop :=
  len ≤ 8796093022208 ∧ (len = 0 ∨ ∃ b off, a = some ⟨b, off, none⟩ ∧ b < w.heap.size ∧ ∀ j, j < len → w.cell? ⟨b, off + j, none⟩ = some (.string (S j))) ∧ ∀ j, j < len → (S j).size ≤ maxLen

theorem StrSl.below {w w' : World} {a : Option Addr} {len : Nat} {S : Nat → ByteArray} (h : StrSl w a len S) (hb : Below w.heap.size w w') : StrSl w' a len S := by
  obtain ⟨h1, h2, h3⟩ := h
  refine ⟨h1, ?_, h3⟩
  rcases h2 with h2 | ⟨b, off, e, hlt, hc⟩
  · exact Or.inl h2
  · exact Or.inr ⟨b, off, e, Nat.lt_of_lt_of_le hlt hb.size, fun j hj => (hb.cell (p := ⟨b, off + j, none⟩) hlt).trans (hc j hj)⟩

theorem ret_bool {a b : Bool} (h : a = b) : Ending.returned (.bool a) = .returned (.bool b) := by rw [h]
theorem ret_int {k : IntKind} {a b : Int} (h : a = b) : Ending.returned (.int k a) = .returned (.int k b) := by rw [h]

/-! ### zzContains -/
theorem contains_none (a : Option Addr) (cap : Nat) (x : ByteArray) (w : World) :
    Calls Try.prog 15 #[.slice a 0 cap, .string x] w fun e w' => e = .returned (.bool false) ∧ w' = w := by
  go_enter Try.func15, Try.ntmps15
  go_wp2
  refine wp_loop_rounds 1 ?_
  rw [rounds_succ]
  go_wp2
  go_ret
  exact ⟨rfl, rfl⟩

theorem contains_some (b off len cap : Nat) (S : Nat → ByteArray) (x : ByteArray) (w : World) (hl : len ≤ 8796093022208)
    (hc : ∀ j, j < len → w.cell? ⟨b, off + j, none⟩ = some (.string (S j))) :
    Calls Try.prog 15 #[.slice (some ⟨b, off, none⟩) len cap, .string x] w fun e w' => e = .returned (.bool (hasN S x.toList len)) ∧ w' = w := by
  have HC : Hid (∀ j, j < len → w.cell? ⟨b, off + j, none⟩ = some (.string (S j))) := hc
  clear hc
  go_enter Try.func15, Try.ntmps15
  go_wp2
  go_loop [5] (fun i => ∃ k : Nat, k ≤ len ∧ i = .int .i64 k ∧ hasN S x.toList k = false) (fun i => len - (intOf i).toNat)
  case atStart => exact ⟨0, Nat.zero_le _, rfl, rfl⟩
  case round =>
    obtain ⟨k, hk, rfl, h0⟩ := hrel
    have H0 : Hid (hasN S x.toList k = false) := h0
    clear h0
    by_cases hlt : k < len
    · have hcx := HC.out k hlt
      by_cases he : ((S k).toList == x.toList) = true
      · have HO : Hid (true = hasN S x.toList len) := (hasN_of S _ k he len hlt).symm
        go_wp2
        go_ret
        exact ⟨ret_bool HO.out, rfl⟩
      · have he' : ((S k).toList == x.toList) = false := by simpa using he
        have HO : Hid (hasN S x.toList (k + 1) = false) := hasN_succ S _ k H0.out he'
        clear he
        go_wp2
        go_round
        case rel => exact ⟨k + 1, by omega, by go_num, HO.out⟩
        case measure => simp [intOf]; omega
    · have e : k = len := by omega
      subst e
      go_wp2
      go_ret
      exact ⟨ret_bool H0.out.symm, rfl⟩

theorem contains_any (a : Option Addr) (len cap : Nat) (S : Nat → ByteArray) (x : ByteArray) (w : World) (h : StrSl w a len S) :
    Calls Try.prog 15 #[.slice a len cap, .string x] w fun e w' => e = .returned (.bool (hasN S x.toList len)) ∧ w' = w := by
  obtain ⟨hl, h2, _⟩ := h
  rcases h2 with rfl | ⟨b, off, rfl, _, hc⟩
  · exact contains_none a cap x w
  · exact contains_some b off len cap S x w hl hc

/-! ### slices.Index, slices.Contains -/
theorem index_none (a : Option Addr) (cap : Nat) (x : ByteArray) (w : World) :
    Calls Try.prog 28 #[.slice a 0 cap, .string x] w fun e w' => (∃ n : Int, e = .returned (.int .i64 n) ∧ decide (0 ≤ n) = false) ∧ w' = w := by
  go_enter Try.func28, Try.ntmps28
  go_wp2
  refine wp_loop_rounds 1 ?_
  rw [rounds_succ]
  go_wp2
  go_ret
  exact ⟨⟨_, rfl, rfl⟩, rfl⟩

theorem index_some (b off len cap : Nat) (S : Nat → ByteArray) (x : ByteArray) (w : World) (hl : len ≤ 8796093022208)
    (hc : ∀ j, j < len → w.cell? ⟨b, off + j, none⟩ = some (.string (S j))) :
    Calls Try.prog 28 #[.slice (some ⟨b, off, none⟩) len cap, .string x] w fun e w' => (∃ n : Int, e = .returned (.int .i64 n) ∧ decide (0 ≤ n) = hasN S x.toList len) ∧ w' = w := by
  have HC : Hid (∀ j, j < len → w.cell? ⟨b, off + j, none⟩ = some (.string (S j))) := hc
  clear hc
  go_enter Try.func28, Try.ntmps28
  go_wp2
  go_loop [8] (fun i => ∃ k : Nat, k ≤ len ∧ i = .int .i64 k ∧ hasN S x.toList k = false) (fun i => len - (intOf i).toNat)
  case atStart => exact ⟨0, Nat.zero_le _, rfl, rfl⟩
  case round =>
    obtain ⟨k, hk, rfl, h0⟩ := hrel
    have H0 : Hid (hasN S x.toList k = false) := h0
    clear h0
    by_cases hlt : k < len
    · have hcx := HC.out k hlt
      by_cases he : (x.toList == (S k).toList) = true
      · have he2 : ((S k).toList == x.toList) = true := by rw [Bool.beq_comm]; exact he
        have HO : Hid (true = hasN S x.toList len) := (hasN_of S _ k he2 len hlt).symm
        clear he2
        go_wp2
        go_ret
        exact ⟨⟨_, rfl, by rw [← HO.out]; simp⟩, rfl⟩
      · have he' : (x.toList == (S k).toList) = false := by simpa using he
        have he2 : ((S k).toList == x.toList) = false := by rw [Bool.beq_comm]; exact he'
        have HO : Hid (hasN S x.toList (k + 1) = false) := hasN_succ S _ k H0.out he2
        clear he he2
        go_wp2
        go_round
        case rel => exact ⟨k + 1, by omega, by go_num, HO.out⟩
        case measure => simp [intOf]; omega
    · have e : k = len := by omega
      subst e
      go_wp2
      go_ret
      exact ⟨⟨_, rfl, by rw [H0.out]; rfl⟩, rfl⟩

theorem slcontains_any (a : Option Addr) (len cap : Nat) (S : Nat → ByteArray) (x : ByteArray) (w : World) (h : StrSl w a len S) :
    Calls Try.prog 27 #[.slice a len cap, .string x] w fun e w' => e = .returned (.bool (hasN S x.toList len)) ∧ w' = w := by
  have hi : Calls Try.prog 28 #[.slice a len cap, .string x] w fun e w' => (∃ n : Int, e = .returned (.int .i64 n) ∧ decide (0 ≤ n) = hasN S x.toList len) ∧ w' = w := by
    obtain ⟨hl, h2, _⟩ := h
    rcases h2 with rfl | ⟨b, off, rfl, _, hc⟩
    · exact index_none a cap x w
    · exact index_some b off len cap S x w hl hc
  go_enter Try.func27, Try.ntmps27
  go_wp2_with (go_at_call 28; refine hi.mono ?_; rintro e w' ⟨⟨n, rfl, hn⟩, rfl⟩)
  go_ret
  exact ⟨rfl, rfl⟩

/-! ### zzLookup -/
theorem lookN_succ_miss (K V : Nat → ByteArray) (x : List UInt8) (k : Nat) (h : ((K k).toList == x) = false) : lookN K V x (k + 1) = lookN K V x k := by
  show (if (K k).toList == x then some (V k) else lookN K V x k) = _
  rw [h]; rfl
theorem lookN_succ_hit (K V : Nat → ByteArray) (x : List UInt8) (k : Nat) (h : ((K k).toList == x) = true) : lookN K V x (k + 1) = some (V k) := by
  show (if (K k).toList == x then some (V k) else lookN K V x k) = _
  rw [h]; rfl

/-- what zzLookup hands back -/
def fnd (o : Option ByteArray) : Bool := o.isSome
def hav (o : Option ByteArray) : ByteArray := o.getD { data := #[] }

theorem look_none (a a' : Option Addr) (cap len' cap' : Nat) (x : ByteArray) (w : World) :
    Calls Try.prog 12 #[.slice a 0 cap, .slice a' len' cap', .string x] w fun e w' => e = .returned (.tuple #[.string { data := #[] }, .bool false]) ∧ w' = w := by
  go_enter Try.func12, Try.ntmps12
  go_wp2
  refine wp_loop_rounds 1 ?_
  rw [rounds_succ]
  go_wp2
  go_ret2
  exact ⟨rfl, rfl⟩

theorem look_some (b off b' off' len cap cap' : Nat) (K V : Nat → ByteArray) (x : ByteArray) (w : World) (hl : len ≤ 8796093022208)
    (hc : ∀ j, j < len → w.cell? ⟨b, off + j, none⟩ = some (.string (K j))) (hc' : ∀ j, j < len → w.cell? ⟨b', off' + j, none⟩ = some (.string (V j))) :
    Calls Try.prog 12 #[.slice (some ⟨b, off, none⟩) len cap, .slice (some ⟨b', off', none⟩) len cap', .string x] w fun e w' => e = .returned (.tuple #[.string (hav (lookN K V x.toList len)), .bool (fnd (lookN K V x.toList len))]) ∧ w' = w := by
  have HC : Hid (∀ j, j < len → w.cell? ⟨b, off + j, none⟩ = some (.string (K j))) := hc
  have HC' : Hid (∀ j, j < len → w.cell? ⟨b', off' + j, none⟩ = some (.string (V j))) := hc'
  clear hc hc'
  go_enter Try.func12, Try.ntmps12
  go_wp2
  go_loop [8] (fun i => ∃ k : Nat, k ≤ len ∧ i = .int .i64 ((k : Int) - 1) ∧ lookN K V x.toList len = lookN K V x.toList k) (fun i => (intOf i + 1).toNat)
  case atStart => exact ⟨len, Nat.le_refl _, rfl, rfl⟩
  case round =>
    obtain ⟨k, hk, rfl, h0⟩ := hrel
    have H0 : Hid (lookN K V x.toList len = lookN K V x.toList k) := h0
    clear h0
    cases k with
    | zero =>
      go_wp2
      go_ret2
      refine ⟨?_, rfl⟩
      rw [H0.out]
      rfl
    | succ k =>
      have hlt : k < len := by omega
      have hcx := HC.out k hlt
      have hcy := HC'.out k hlt
      have ek : (((k + 1 : Nat) : Int) - 1) = (k : Int) := by omega
      rw [ek]
      by_cases he : ((K k).toList == x.toList) = true
      · have HO : Hid (lookN K V x.toList len = some (V k)) := by rw [H0.out]; exact lookN_succ_hit K V _ k he
        clear ek
        go_wp2
        go_ret2
        refine ⟨?_, rfl⟩
        rw [HO.out]
        rfl
      · have he' : ((K k).toList == x.toList) = false := by simpa using he
        have HO : Hid (lookN K V x.toList len = lookN K V x.toList k) := by rw [H0.out]; exact lookN_succ_miss K V _ k he'
        clear he ek
        go_wp2
        go_round
        case rel => exact ⟨k, by omega, rfl, HO.out⟩
        case measure => simp [intOf]

theorem look_any (a a' : Option Addr) (len cap cap' : Nat) (K V : Nat → ByteArray) (x : ByteArray) (w : World) (h : StrSl w a len K) (h' : StrSl w a' len V) :
    Calls Try.prog 12 #[.slice a len cap, .slice a' len cap', .string x] w fun e w' => e = .returned (.tuple #[.string (hav (lookN K V x.toList len)), .bool (fnd (lookN K V x.toList len))]) ∧ w' = w := by
  obtain ⟨hl, h2, _⟩ := h
  obtain ⟨_, h2', _⟩ := h'
  rcases h2 with rfl | ⟨b, off, rfl, _, hc⟩
  · exact look_none a a' cap 0 cap' x w
  · rcases h2' with rfl | ⟨b', off', rfl, _, hc'⟩
    · exact look_none _ a' cap 0 cap' x w
    · exact look_some b off b' off' len cap cap' K V x w hl hc hc'

end Go.Proofs.Qxb6619294a.Sel
