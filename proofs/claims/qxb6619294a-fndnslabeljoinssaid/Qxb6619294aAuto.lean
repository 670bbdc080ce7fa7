/-
  The contract of zzLabelAutomaton (23).
-/
import Derived.Test.Qxb6619294aDns
namespace Go.Proofs.Qxb6619294a.Dns
open Go.ChangeShapes Go.WideShapes Go.ChangeAt Go.RowKit

/-- the automaton's state behind k bytes -/
def runTo (s : ByteArray) (k : Nat) : Int := run (s.data.toList.take k)
/-- does the automaton accept? -/
def acc (s : ByteArray) : Bool := run s.data.toList == 1

theorem runTo_succ (s : ByteArray) (k : Nat) (h : k < s.size) : runTo s (k + 1) = stp (runTo s k) s[k] := by
  unfold runTo
  rw [take_snoc s k h, run_snoc]
theorem runTo_range (s : ByteArray) (k : Nat) : 0 ≤ runTo s k ∧ runTo s k ≤ 3 := run_range _
theorem acc_of (s : ByteArray) (k : Nat) (h : ¬ k < s.size) : acc s = (runTo s k == 1) := by
  unfold acc runTo
  rw [List.take_of_length_le (by simp; omega)]

theorem stp_three (X : Int) (c : UInt8) (h : 3 ≤ X) (h' : X ≤ 3) : stp X c = X := by
  have : X = 3 := by omega
  subst this; rfl
theorem stp_aln (X : Int) (c : UInt8) (h : X ≤ 2) (hc : (97 ≤ (c.toNat : Int) ∧ (c.toNat : Int) ≤ 122) ∨ (48 ≤ (c.toNat : Int) ∧ (c.toNat : Int) ≤ 57)) : stp X c = 1 := by
  unfold stp
  have e : (X == 3) = false := by simp; omega
  have e2 : aln c = true := by rw [aln_int]; simp; omega
  rw [e, e2]; rfl
theorem stp_dash (X : Int) (c : UInt8) (h : X ≤ 2) (h1 : 1 ≤ X) (hc : (c.toNat : Int) ≤ 45 ∧ 45 ≤ (c.toNat : Int)) : stp X c = 2 := by
  unfold stp
  have e : (X == 3) = false := by simp; omega
  have e2 : aln c = false := by rw [aln_int]; simp; omega
  have e3 : (c == 45) = true := by rw [dash_int]; simp; omega
  have e4 : (X != 0) = true := by simp; omega
  rw [e, e2, e3, e4]; rfl
theorem stp_dash0 (X : Int) (c : UInt8) (h : X ≤ 0) (hc : (c.toNat : Int) ≤ 45 ∧ 45 ≤ (c.toNat : Int)) (h1 : 0 ≤ X) : stp X c = 3 := by
  have : X = 0 := by omega
  subst this
  unfold stp
  have e2 : aln c = false := by rw [aln_int]; simp; omega
  have e3 : (c == 45) = true := by rw [dash_int]; simp; omega
  rw [e2, e3]; rfl
theorem stp_bad (X : Int) (c : UInt8) (h : X ≤ 2) (hc : (((c.toNat : Int) < 97 ∨ 122 < (c.toNat : Int)) ∧ ((c.toNat : Int) < 48 ∨ 57 < (c.toNat : Int))) ∧ ((c.toNat : Int) != 45) = true) : stp X c = 3 := by
  unfold stp
  have e : (X == 3) = false := by simp; omega
  have e2 : aln c = false := by rw [aln_int]; simp; omega
  have e3 : (c == 45) = false := by rw [dash_int]; simpa using hc.2
  rw [e, e2, e3]; rfl

set_option maxHeartbeats 1000000 in
theorem auto_any (s : ByteArray) (w : World) (hs : s.size ≤ 2000000) :
    Calls Try.prog 23 #[.string s] w fun e w' => e = .returned (.bool (acc s)) ∧ w' = w := by
  go_enter Try.func23, Try.ntmps23
  go_wp2
  go_loop [3, 4] (fun st i => ∃ (k : Nat) (X : Int), k ≤ s.size ∧ i = .int .i64 k ∧ st = .int .i64 X ∧ X = runTo s k) (fun _ i => s.size - (intOf i).toNat)
  case atStart => exact ⟨0, 0, Nat.zero_le _, rfl, rfl, rfl⟩
  case round =>
    obtain ⟨k, X, hk, rfl, rfl, hX⟩ := hrel
    have hr := runTo_range s k
    rw [← hX] at hr
    obtain ⟨hr0, hr3⟩ := hr
    by_cases hlt : k < s.size
    · have hn := runTo_succ s k hlt
      rw [← hX] at hn
      clear hX
      by_cases h3 : 3 ≤ X
      · have HN : Hid (X = runTo s (k + 1)) := by rw [hn, stp_three X _ h3 hr3]; exact rfl
        clear hn
        go_wp2
        all_goals
          go_round
          case rel => exact ⟨k + 1, X, by omega, by go_num, rfl, HN.out⟩
          case measure => simp [intOf]; omega
      · have h2 : X ≤ 2 := by omega
        clear h3 hr3
        rcases okc_cases s[k] with ⟨ho, hc⟩ | ⟨ho, hc⟩ | ⟨ho, hc⟩ | ⟨ho, hc⟩
        · have HN : Hid (1 = runTo s (k + 1)) := by rw [hn, stp_aln X _ h2 (Or.inl hc)]; exact rfl
          clear hn ho
          obtain ⟨hc1, hc2⟩ := hc
          go_wp2
          all_goals
            go_round
            case rel => exact ⟨k + 1, 1, by omega, by go_num, rfl, HN.out⟩
            case measure => simp [intOf]; omega
        · have HN : Hid (1 = runTo s (k + 1)) := by rw [hn, stp_aln X _ h2 (Or.inr hc)]; exact rfl
          clear hn ho
          obtain ⟨hc1, hc2⟩ := hc
          go_wp2
          all_goals
            go_round
            case rel => exact ⟨k + 1, 1, by omega, by go_num, rfl, HN.out⟩
            case measure => simp [intOf]; omega
        · by_cases h1 : 1 ≤ X
          · have HN : Hid (2 = runTo s (k + 1)) := by rw [hn, stp_dash X _ h2 h1 hc]; exact rfl
            clear hn ho
            obtain ⟨hc1, hc2⟩ := hc
            go_wp2
            all_goals
              go_round
              case rel => exact ⟨k + 1, 2, by omega, by go_num, rfl, HN.out⟩
              case measure => simp [intOf]; omega
          · have h1' : X ≤ 0 := by omega
            have HN : Hid (3 = runTo s (k + 1)) := by rw [hn, stp_dash0 X _ h1' hc hr0]; exact rfl
            clear hn ho h1
            obtain ⟨hc1, hc2⟩ := hc
            go_wp2
            all_goals
              go_round
              case rel => exact ⟨k + 1, 3, by omega, by go_num, rfl, HN.out⟩
              case measure => simp [intOf]; omega
        · have HN : Hid (3 = runTo s (k + 1)) := by rw [hn, stp_bad X _ h2 hc]; exact rfl
          clear hn ho
          obtain ⟨⟨hc1, hc2⟩, hc3⟩ := hc
          have hc4 : ((s[k].toNat : Int) == 45) = false := by simpa using hc3
          go_wp2
          all_goals
            go_round
            case rel => exact ⟨k + 1, 3, by omega, by go_num, rfl, HN.out⟩
            case measure => simp [intOf]; omega
    · have HN : Hid (acc s = (X == 1)) := by rw [hX]; exact acc_of s k hlt
      clear hX
      go_wp2
      all_goals
        go_ret
        exact ⟨ret_bool HN.out.symm, rfl⟩

end Go.Proofs.Qxb6619294a.Dns
