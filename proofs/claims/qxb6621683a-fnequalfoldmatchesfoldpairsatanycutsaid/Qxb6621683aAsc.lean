/-
  The two small functions of the ascii laws: lower (10), ZZlower (8), foldPair (9); the plain law that ties them.
-/
import Derived.Test.Qxb6621683aRows
import Derived.WalkKit
import Derived.ProofKit
import Derived.OpenShut
import Derived.ShutString
import Derived.Below
import Derived.Laws.BitsAllLaws
namespace Go.Proofs.Qxb6621683a.Asc
open Go.ChangeShapes Go.WideShapes Go.ChangeAt Go.RowKit

/-- ASCII's lower case of a byte -/
def low (c : Nat) : Nat := if 65 ≤ c ∧ c ≤ 90 then c + 32 else c
/-- the same byte, or the two cases of one ASCII letter -/
def fp (x y : Nat) : Bool := (x == y) || ((x ^^^ y) == 32 && (decide (97 ≤ (x ||| 32)) && decide ((x ||| 32) ≤ 122)))

theorem low_lt (c : Nat) (h : c < 256) : low c < 256 := by unfold low; split <;> omega
theorem low_low (c : Nat) : low (low c) = low c := by unfold low; split <;> (try split) <;> omega

theorem law_flip : ∀ c : Nat, c < 256 → (low c == low (c ^^^ 32)) = (decide (97 ≤ (c ||| 32)) && decide ((c ||| 32) ≤ 122)) := by decide +kernel
theorem law_up : ∀ c : Nat, c < 256 → 65 ≤ c ∧ c ≤ 90 → c ^^^ (c + 32) = 32 := by decide +kernel

theorem xor_flip (c d : Nat) (h : c ^^^ d = 32) : d = c ^^^ 32 := by
  rw [← h, ← Nat.xor_assoc, Nat.xor_self, Nat.zero_xor]

theorem law (c d : Nat) (hc : c < 256) (hd : d < 256) : (low c == low d) = fp c d := by
  unfold fp
  by_cases h1 : c = d
  · subst h1; simp
  · have hb : (c == d) = false := by simpa using h1
    rw [hb, Bool.false_or]
    by_cases h2 : (c ^^^ d) = 32
    · have e := xor_flip c d h2
      rw [h2, e, law_flip c hc]
      rfl
    · have hz : ((c ^^^ d) == 32) = false := by simpa using h2
      rw [hz, Bool.false_and]
      have hn : ¬ low c = low d := by
        intro hl
        unfold low at hl
        by_cases hcu : 65 ≤ c ∧ c ≤ 90
        · by_cases hdu : 65 ≤ d ∧ d ≤ 90
          · rw [if_pos hcu, if_pos hdu] at hl; omega
          · rw [if_pos hcu, if_neg hdu] at hl
            subst hl
            exact h2 (law_up c hc hcu)
        · by_cases hdu : 65 ≤ d ∧ d ≤ 90
          · rw [if_neg hcu, if_pos hdu] at hl
            subst hl
            exact h2 (by rw [Nat.xor_comm]; exact law_up d hd hdu)
          · rw [if_neg hcu, if_neg hdu] at hl; exact h1 hl
      simpa using hn

theorem cast_beq (a b : Nat) : ((a : Int) == (b : Int)) = (a == b) := by rw [Bool.eq_iff_iff]; simp; omega

theorem ret_bool {a b : Bool} (h : a = b) : Ending.returned (.bool a) = .returned (.bool b) := by rw [h]
theorem ret_int {k : IntKind} {a b : Int} (h : a = b) : Ending.returned (.int k a) = .returned (.int k b) := by rw [h]

theorem lower_any (c : Nat) (h : c < 256) (w : World) :
    Calls Try.prog 10 #[.int .u8 (c : Int)] w fun e w' => e = .returned (.int .u8 (low c : Int)) ∧ w' = w := by
  have h' : (c : Int) ≤ 255 := by omega
  by_cases h1 : 65 ≤ c ∧ c ≤ 90
  · have HL : Hid ((low c : Int) = (c : Int) + 97 - 65) := by
      show (low c : Int) = (c : Int) + 97 - 65
      unfold low; rw [if_pos h1]; omega
    obtain ⟨h2, h3⟩ := h1
    go_enter Try.func10, Try.ntmps10
    go_wp2
    go_ret
    exact ⟨ret_int HL.out.symm, rfl⟩
  · have HL : Hid ((low c : Int) = (c : Int)) := by
      show (low c : Int) = (c : Int)
      unfold low; rw [if_neg h1]
    by_cases h2 : c < 65
    · clear h1
      go_enter Try.func10, Try.ntmps10
      go_wp2
      go_ret
      exact ⟨ret_int HL.out.symm, rfl⟩
    · have h3 : 90 < c := by omega
      clear h1
      go_enter Try.func10, Try.ntmps10
      go_wp2
      go_ret
      exact ⟨ret_int HL.out.symm, rfl⟩

theorem zzlower_any (c : Nat) (h : c < 256) (w : World) :
    Calls Try.prog 8 #[.int .u8 (c : Int)] w fun e w' => e = .returned (.int .u8 (low c : Int)) ∧ w' = w := by
  go_enter Try.func8, Try.ntmps8
  go_wp2_with (go_at_call 10; refine (lower_any _ h _).mono ?_; rintro e w' ⟨rfl, rfl⟩)
  go_ret
  exact ⟨rfl, rfl⟩

theorem pair_any (x y : Nat) (hx : x < 256) (hy : y < 256) (w : World) :
    Calls Try.prog 9 #[.int .u8 (x : Int), .int .u8 (y : Int)] w fun e w' => e = .returned (.bool (fp x y)) ∧ w' = w := by
  have ex := u8_xor_nat x y hx hy
  have eo : bits .or .u8 (x : Int) 32 = ((x ||| 32 : Nat) : Int) := u8_or_nat x 32 hx (by decide)
  by_cases h1 : x = y
  · have HF : Hid (fp x y = true) := by
      show fp x y = true
      unfold fp; rw [h1]; simp
    have h1' : ((x : Int) == (y : Int)) = true := by simp [h1]
    clear h1 ex eo
    go_enter Try.func9, Try.ntmps9
    go_wp2
    go_ret
    exact ⟨ret_bool HF.out.symm, rfl⟩
  · have h1' : ((x : Int) == (y : Int)) = false := by simp; omega
    have hb : (x == y) = false := by simpa using h1
    by_cases h2 : (x ^^^ y) = 32
    · have h2' : (bits .xor .u8 (x : Int) (y : Int) != 32) = false := by rw [ex, h2]; rfl
      have HF : Hid (fp x y = (decide (97 ≤ (x ||| 32)) && decide ((x ||| 32) ≤ 122))) := by
        show fp x y = _
        unfold fp; rw [hb, h2]; rfl
      by_cases h3 : 97 ≤ (x ||| 32)
      · by_cases h4 : (x ||| 32) ≤ 122
        · have HT : Hid (fp x y = true) := by
            show fp x y = true
            rw [HF.out, decide_eq_true h3, decide_eq_true h4]; rfl
          have h3' : 97 ≤ bits .or .u8 (x : Int) 32 := by rw [eo]; omega
          have h4' : bits .or .u8 (x : Int) 32 ≤ 122 := by rw [eo]; omega
          clear h1 ex eo hb h2 HF h3 h4
          go_enter Try.func9, Try.ntmps9
          go_wp2
          go_ret
          exact ⟨ret_bool (by rw [HT.out]), rfl⟩
        · have HT : Hid (fp x y = false) := by
            show fp x y = false
            rw [HF.out, decide_eq_false h4]; simp
          have h3' : 97 ≤ bits .or .u8 (x : Int) 32 := by rw [eo]; omega
          have h4' : 122 < bits .or .u8 (x : Int) 32 := by rw [eo]; omega
          clear h1 ex eo hb h2 HF h3 h4
          go_enter Try.func9, Try.ntmps9
          go_wp2
          go_ret
          exact ⟨ret_bool (by rw [HT.out]; simp [h4']), rfl⟩
      · have HT : Hid (fp x y = false) := by
          show fp x y = false
          rw [HF.out, decide_eq_false h3]; simp
        have h3' : bits .or .u8 (x : Int) 32 < 97 := by rw [eo]; omega
        clear h1 ex eo hb h2 HF h3
        go_enter Try.func9, Try.ntmps9
        go_wp2
        go_ret
        exact ⟨ret_bool (by rw [HT.out]), rfl⟩
    · have h2' : (bits .xor .u8 (x : Int) (y : Int) != 32) = true := by rw [ex]; simp; omega
      have HF : Hid (fp x y = false) := by
        have hz : ((x ^^^ y) == 32) = false := by simpa using h2
        show fp x y = false
        unfold fp; rw [hb, hz]; rfl
      clear h1 ex eo hb h2
      go_enter Try.func9, Try.ntmps9
      go_wp2
      go_ret
      exact ⟨ret_bool HF.out.symm, rfl⟩

end Go.Proofs.Qxb6621683a.Asc
