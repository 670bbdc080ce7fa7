/-
  The contracts on the road of FnDNSLabelJoins: hasDNSLabelForm (26), ZZHasDNSLabelForm (22), zzLabelAutomaton (23), the byte guard (21); and the plain law.
-/
import Derived.Test.Qxb6619294aRows
import Derived.WalkKit
import Derived.ProofKit
import Derived.OpenShut
import Derived.ShutString
namespace Go.Proofs.Qxb6619294a.Dns
open Go.ChangeShapes Go.WideShapes Go.ChangeAt Go.RowKit

/-- a lowercase letter or a digit -/
def aln (c : UInt8) : Bool := (97 ≤ c && c ≤ 122) || (48 ≤ c && c ≤ 57)
/-- a byte that a label may hold -/
def okc (c : UInt8) : Bool := aln c || c == 45
/-- the form of a DNS label -/
def frm (l : List UInt8) : Bool := !l.isEmpty && !(l.head? == some 45) && !(l.getLast? == some 45) && l.all okc

/-- one step of the automaton -/
def stp (st : Int) (c : UInt8) : Int := if st == 3 then 3 else if aln c then 1 else if c == 45 && st != 0 then 2 else 3
def run (l : List UInt8) : Int := l.foldl stp 0

theorem take_snoc (s : ByteArray) (k : Nat) (h : k < s.size) : s.data.toList.take (k + 1) = s.data.toList.take k ++ [s[k]] := by
  rw [List.take_succ_eq_append_getElem (by simpa using h)]; rfl

theorem aln_int (c : UInt8) : aln c = ((decide (97 ≤ (c.toNat : Int)) && decide ((c.toNat : Int) ≤ 122)) || (decide (48 ≤ (c.toNat : Int)) && decide ((c.toNat : Int) ≤ 57))) := by
  unfold aln
  rw [Bool.eq_iff_iff]; simp [UInt8.le_iff_toNat_le]; omega
theorem dash_int (c : UInt8) : (c == 45) = ((c.toNat : Int) == 45) := by
  rw [Bool.eq_iff_iff]; simp [← UInt8.toNat_inj]; omega

theorem run_snoc (l : List UInt8) (c : UInt8) : run (l ++ [c]) = stp (run l) c := by
  simp [run]

theorem stp_range (st : Int) (c : UInt8) : 0 ≤ stp st c ∧ stp st c ≤ 3 := by
  unfold stp; split <;> (try split) <;> (try split) <;> omega
theorem foldl_range (l : List UInt8) : ∀ st : Int, 0 ≤ st ∧ st ≤ 3 → 0 ≤ l.foldl stp st ∧ l.foldl stp st ≤ 3 := by
  induction l with
  | nil => intro st h; exact h
  | cons c l ih => intro st _; exact ih _ (stp_range st c)
theorem run_range (l : List UInt8) : 0 ≤ run l ∧ run l ≤ 3 := foldl_range l 0 (by decide)

theorem okc_int (c : UInt8) : okc c = (((decide (97 ≤ (c.toNat : Int)) && decide ((c.toNat : Int) ≤ 122)) || (decide (48 ≤ (c.toNat : Int)) && decide ((c.toNat : Int) ≤ 57))) || ((c.toNat : Int) == 45)) := by
  unfold okc; rw [aln_int, dash_int]

theorem nonempty_of (s : ByteArray) (h0 : 0 < s.size) : s.toList.isEmpty = false := by
  rw [ByteArray.toList_eq]
  obtain ⟨⟨l⟩⟩ := s
  cases l with
  | nil => exact absurd h0 (by decide)
  | cons a l => rfl

/-- the first k bytes are bytes that a label may hold -/
def upto (s : ByteArray) (k : Nat) : Bool := (s.data.toList.take k).all okc
/-- all of its bytes are -/
def allok (s : ByteArray) : Bool := s.data.toList.all okc

theorem upto_succ (s : ByteArray) (k : Nat) (h : k < s.size) (h1 : upto s k = true) (h2 : okc s[k] = true) : upto s (k + 1) = true := by
  unfold upto at *
  rw [take_snoc s k h]; simp [h1, h2]

theorem all_of_bad (s : ByteArray) (k : Nat) (h : k < s.size) (hb : okc s[k] = false) : allok s = false := by
  unfold allok
  rw [List.all_eq_false]
  refine ⟨s[k], ?_, by simp [hb]⟩
  have : s[k] = s.data.toList[k]'(by simpa using h) := rfl
  rw [this]
  exact List.getElem_mem _

theorem all_of_upto (s : ByteArray) (k : Nat) (h : ¬ k < s.size) (h1 : upto s k = true) : allok s = true := by
  unfold upto at h1
  unfold allok
  rwa [List.take_of_length_le (by simp; omega)] at h1

theorem okc_cases (c : UInt8) : (okc c = true ∧ (97 ≤ (c.toNat : Int) ∧ (c.toNat : Int) ≤ 122)) ∨ (okc c = true ∧ (48 ≤ (c.toNat : Int) ∧ (c.toNat : Int) ≤ 57)) ∨ (okc c = true ∧ (c.toNat : Int) ≤ 45 ∧ 45 ≤ (c.toNat : Int)) ∨ (okc c = false ∧ (((c.toNat : Int) < 97 ∨ 122 < (c.toNat : Int)) ∧ ((c.toNat : Int) < 48 ∨ 57 < (c.toNat : Int))) ∧ ((c.toNat : Int) != 45) = true) := by
  rw [okc_int]
  simp
  omega

theorem ret_bool {a b : Bool} (h : a = b) : Ending.returned (.bool a) = .returned (.bool b) := by rw [h]

set_option maxHeartbeats 400000 in
theorem form_loop (s : ByteArray) (w : World) (hs : s.size ≤ 2000000) (h0 : 0 < s.size) (ha : ((s[0].toNat : Int) == 45) = false) (hb : ((s[s.size - 1].toNat : Int) == 45) = false) :
    Calls Try.prog 26 #[.string s] w fun e w' => e = .returned (.bool (allok s)) ∧ w' = w := by
  have hne := nonempty_of s h0
  go_enter Try.func26, Try.ntmps26
  go_wp2
  go_loop [22] (fun i => ∃ k : Nat, k ≤ s.size ∧ i = .int .i64 k ∧ upto s k = true) (fun i => s.size - (intOf i).toNat)
  case atStart => exact ⟨0, Nat.zero_le _, rfl, rfl⟩
  case round =>
    obtain ⟨k, hk, rfl, hall⟩ := hrel
    have HA : Hid (upto s k = true) := hall
    clear hall
    by_cases hlt : k < s.size
    · rcases okc_cases s[k] with ⟨ho, h1, h2⟩ | ⟨ho, h1, h2⟩ | ⟨ho, h1, h2⟩ | ⟨ho, ⟨h1, h2⟩, h3⟩
      · have HO : Hid (upto s (k + 1) = true) := upto_succ s k hlt HA.out ho
        clear ho
        go_wp2
        all_goals
          go_round
          case rel => exact ⟨k + 1, by omega, by go_num, HO.out⟩
          case measure => simp [intOf]; omega
      · have HO : Hid (upto s (k + 1) = true) := upto_succ s k hlt HA.out ho
        clear ho
        go_wp2
        all_goals
          go_round
          case rel => exact ⟨k + 1, by omega, by go_num, HO.out⟩
          case measure => simp [intOf]; omega
      · have HO : Hid (upto s (k + 1) = true) := upto_succ s k hlt HA.out ho
        clear ho
        go_wp2
        all_goals
          go_round
          case rel => exact ⟨k + 1, by omega, by go_num, HO.out⟩
          case measure => simp [intOf]; omega
      · have HO : Hid (allok s = false) := all_of_bad s k hlt ho
        clear ho
        go_wp2
        all_goals
          go_ret
          exact ⟨ret_bool HO.out.symm, rfl⟩
    · go_wp2
      go_ret
      exact ⟨ret_bool (all_of_upto s k hlt HA.out).symm, rfl⟩

/-- the form of a string -/
def frmS (s : ByteArray) : Bool := frm s.data.toList

theorem head_of (s : ByteArray) (h0 : 0 < s.size) : s.data.toList.head? = some s[0] := by
  obtain ⟨⟨l⟩⟩ := s
  cases l with
  | nil => exact absurd h0 (by decide)
  | cons a l => rfl
theorem last_of (s : ByteArray) (h0 : 0 < s.size) : s.data.toList.getLast? = some s[s.size - 1] := by
  obtain ⟨⟨l⟩⟩ := s
  cases l with
  | nil => exact absurd h0 (by decide)
  | cons a l =>
    rw [List.getLast?_eq_getElem?]
    exact List.getElem?_eq_getElem _

theorem frm_parts (s : ByteArray) (h0 : 0 < s.size) : frmS s = (!((s[0].toNat : Int) == 45) && !((s[s.size - 1].toNat : Int) == 45) && allok s) := by
  unfold frmS frm allok
  have he := nonempty_of s h0
  rw [ByteArray.toList_eq] at he
  rw [he, head_of s h0, last_of s h0]
  have e1 : (some s[0] == some 45) = (s[0] == 45) := rfl
  have e2 : (some s[s.size - 1] == some 45) = (s[s.size - 1] == 45) := rfl
  rw [e1, e2, dash_int, dash_int]
  rfl

theorem frm_nil (s : ByteArray) (h0 : ¬ 0 < s.size) : frmS s = false := by
  obtain ⟨⟨l⟩⟩ := s
  cases l with
  | nil => rfl
  | cons a l => exact absurd (Nat.succ_pos _) h0
theorem empty_of (s : ByteArray) (h0 : ¬ 0 < s.size) : s.toList.isEmpty = true := by
  rw [ByteArray.toList_eq]
  obtain ⟨⟨l⟩⟩ := s
  cases l with
  | nil => rfl
  | cons a l => exact absurd (Nat.succ_pos _) h0

set_option maxHeartbeats 400000 in
theorem form_any (s : ByteArray) (w : World) (hs : s.size ≤ 2000000) :
    Calls Try.prog 26 #[.string s] w fun e w' => e = .returned (.bool (frmS s)) ∧ w' = w := by
  by_cases h0 : 0 < s.size
  · have hp := frm_parts s h0
    by_cases ha : ((s[0].toNat : Int) == 45) = true
    · have HF : Hid (frmS s = false) := by rw [hp, ha]; rfl
      have hne := nonempty_of s h0
      clear hp
      go_enter Try.func26, Try.ntmps26
      go_wp2
      go_ret
      exact ⟨ret_bool HF.out.symm, rfl⟩
    · have ha' : ((s[0].toNat : Int) == 45) = false := by simpa using ha
      by_cases hb : ((s[s.size - 1].toNat : Int) == 45) = true
      · have HF : Hid (frmS s = false) := by rw [hp, ha', hb]; rfl
        have hne := nonempty_of s h0
        clear hp ha
        go_enter Try.func26, Try.ntmps26
        go_wp2
        go_ret
        exact ⟨ret_bool HF.out.symm, rfl⟩
      · have hb' : ((s[s.size - 1].toNat : Int) == 45) = false := by simpa using hb
        have e : frmS s = allok s := by rw [hp, ha', hb']; rfl
        rw [e]
        exact form_loop s w hs h0 ha' hb'
  · have HF : Hid (frmS s = false) := frm_nil s h0
    have hne := empty_of s h0
    go_enter Try.func26, Try.ntmps26
    go_wp2
    go_ret
    exact ⟨ret_bool HF.out.symm, rfl⟩

theorem zzform_any (s : ByteArray) (w : World) (hs : s.size ≤ 2000000) :
    Calls Try.prog 22 #[.string s] w fun e w' => e = .returned (.bool (frmS s)) ∧ w' = w := by
  go_enter Try.func22, Try.ntmps22
  go_wp2_with (go_at_call 26; refine (form_any _ _ hs).mono ?_; rintro e w' ⟨rfl, rfl⟩)
  go_ret
  exact ⟨rfl, rfl⟩

theorem bytes21 (a b : ByteArray) (w : World) (ha : a.size ≤ maxLen) (hb : b.size ≤ maxLen) :
    Calls Try.prog 21 #[.string a, .string b] w fun e w' => (∃ r : Bool, e = .returned (.bool r)) ∧ w' = w := by
  unfold maxLen at ha hb
  go_enter Try.func21, Try.ntmps21
  go_wp2
  all_goals
    go_ret
    exact ⟨⟨_, rfl⟩, rfl⟩

end Go.Proofs.Qxb6619294a.Dns
