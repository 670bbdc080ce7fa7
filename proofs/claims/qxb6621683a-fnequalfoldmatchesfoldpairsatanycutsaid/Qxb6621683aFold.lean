/-
  EqualFold (6), foldEqualModel (7), the byte guard (5): their contracts, over bytes by places.
-/
import Derived.Test.Qxb6621683aAsc
import Derived.Deep.QuietTactic
import Derived.BigQuiet
namespace Go.Proofs.Qxb6621683a.Asc
open Go.ChangeShapes Go.WideShapes Go.ChangeAt Go.RowKit

/-- byte j of a string, as a number -/
def byt (s : ByteArray) (j : Nat) : Nat := (s.data.toList.getD j 0).toNat

theorem byt_lt (s : ByteArray) (j : Nat) : byt s j < 256 := UInt8.toNat_lt _
theorem byt_at (s : ByteArray) (j : Nat) (h : j < s.size) : s[j].toNat = byt s j := by
  unfold byt
  rw [List.getD, List.getElem?_eq_getElem (by simpa using h)]
  rfl

/-- the first n places agree without case -/
def okN (A B : Nat → Nat) : Nat → Bool
  | 0 => true
  | n + 1 => okN A B n && (low (A n) == low (B n))
/-- how many of the first n places hold a fold pair -/
def cntN (A B : Nat → Nat) : Nat → Nat
  | 0 => 0
  | n + 1 => cntN A B n + if fp (A n) (B n) then 1 else 0

theorem okN_bad (A B : Nat → Nat) (k : Nat) (h : (low (A k) == low (B k)) = false) : ∀ n, k < n → okN A B n = false
  | 0, hk => absurd hk (Nat.not_lt_zero _)
  | n + 1, hk => by
    unfold okN
    by_cases e : k = n
    · subst e; rw [h]; simp
    · rw [okN_bad A B k h n (by omega)]; rfl
theorem okN_succ (A B : Nat → Nat) (k : Nat) (h0 : okN A B k = true) (h : (low (A k) == low (B k)) = true) : okN A B (k + 1) = true := by
  unfold okN; rw [h0, h]; rfl
theorem cnt_le (A B : Nat → Nat) : ∀ n, cntN A B n ≤ n
  | 0 => Nat.le_refl _
  | n + 1 => by
    have := cnt_le A B n
    unfold cntN
    split <;> omega
theorem cnt_ok (A B : Nat → Nat) (hA : ∀ j, A j < 256) (hB : ∀ j, B j < 256) : ∀ n, (cntN A B n == n) = okN A B n
  | 0 => rfl
  | n + 1 => by
    have ih := cnt_ok A B hA hB n
    have hle := cnt_le A B n
    unfold cntN okN
    rw [law _ _ (hA n) (hB n), ← ih]
    cases hf : fp (A n) (B n) with
    | true =>
      simp
    | false =>
      simp
      omega
theorem okN_comm (A B : Nat → Nat) : ∀ n, okN A B n = okN B A n
  | 0 => rfl
  | n + 1 => by
    unfold okN
    rw [okN_comm A B n, Bool.beq_comm]
theorem okN_congr (A B A' B' : Nat → Nat) : ∀ n, (∀ j, j < n → A j = A' j) → (∀ j, j < n → B j = B' j) → okN A B n = okN A' B' n
  | 0, _, _ => rfl
  | n + 1, hA, hB => by
    unfold okN
    rw [okN_congr A B A' B' n (fun j hj => hA j (by omega)) (fun j hj => hB j (by omega)), hA n (by omega), hB n (by omega)]
theorem okN_split (A B : Nat → Nat) (k : Nat) : ∀ n, okN A B (k + n) = (okN A B k && okN (fun j => A (k + j)) (fun j => B (k + j)) n)
  | 0 => by simp [okN]
  | n + 1 => by
    rw [← Nat.add_assoc]
    unfold okN
    rw [okN_split A B k n, Bool.and_assoc]
    cases k <;> rfl

/-- equal without ASCII case -/
def ef (a b : ByteArray) : Bool := (a.size == b.size) && okN (byt a) (byt b) a.size

theorem ef_ne (a b : ByteArray) (h : ¬ a.size = b.size) : ef a b = false := by
  unfold ef
  have : (a.size == b.size) = false := by simpa using h
  rw [this]; rfl
theorem ef_eq (a b : ByteArray) (h : a.size = b.size) : ef a b = okN (byt a) (byt b) a.size := by
  unfold ef
  have : (a.size == b.size) = true := by simpa using h
  rw [this]; rfl
theorem ef_comm (a b : ByteArray) : ef b a = ef a b := by
  by_cases h : a.size = b.size
  · rw [ef_eq a b h, ef_eq b a h.symm, okN_comm, h]
  · rw [ef_ne a b h, ef_ne b a (fun e => h e.symm)]

theorem byt_take (s : ByteArray) (k j : Nat) (h : j < k) : byt (s.extract 0 k) j = byt s j := by
  unfold byt
  congr 1
  simp [h]
theorem byt_drop (s : ByteArray) (k j : Nat) (hj : j < s.size - k) : byt (s.extract k s.size) j = byt s (k + j) := by
  unfold byt
  congr 1
  have hlt : k + j < s.data.size := by show k + j < s.size; omega
  simp [hj]
  rw [getElem?_pos s.data (k + j) hlt]
  rfl

theorem ef_split (a b : ByteArray) (k : Nat) (ha : k ≤ a.size) (hb : k ≤ b.size) : (ef (a.extract 0 k) (b.extract 0 k) && ef (a.extract k a.size) (b.extract k b.size)) = ef a b := by
  have s1 : (a.extract 0 k).size = k := by simp; omega
  have s2 : (b.extract 0 k).size = k := by simp; omega
  have s3 : (a.extract k a.size).size = a.size - k := by simp
  have s4 : (b.extract k b.size).size = b.size - k := by simp
  by_cases h : a.size = b.size
  · rw [ef_eq a b h, ef_eq _ _ (s1.trans s2.symm), ef_eq _ _ (by rw [s3, s4, h]), s1, s3]
    rw [okN_congr _ _ (byt a) (byt b) k (fun j hj => byt_take a k j hj) (fun j hj => byt_take b k j hj)]
    rw [okN_congr _ _ (fun j => byt a (k + j)) (fun j => byt b (k + j)) (a.size - k) (fun j hj => byt_drop a k j hj) (fun j hj => byt_drop b k j (by omega))]
    rw [← okN_split, Nat.add_sub_cancel' ha]
  · rw [ef_ne a b h, ef_ne (a.extract k a.size) (b.extract k b.size) (by rw [s3, s4]; omega), Bool.and_false]

set_option maxHeartbeats 1000000 in
theorem fold_any (a b : ByteArray) (w : World) (ha : a.size ≤ 2000000) :
    Calls Try.prog 6 #[.string a, .string b] w fun e w' => e = .returned (.bool (ef a b)) ∧ ∃ n, w' = w.drewN n := by
  by_cases hs : a.size = b.size
  · have hs' : ((a.size : Int) != (b.size : Int)) = false := by rw [hs]; simp
    have HS : Hid (a.size = b.size) := hs
    rw [ef_eq a b hs]
    clear hs
    go_enter Try.func6, Try.ntmps6
    go_wp2
    go_loopw [5] (fun i wr => ∃ k n : Nat, k ≤ a.size ∧ i = .int .i64 k ∧ okN (byt a) (byt b) k = true ∧ wr = w.drewN n) (fun i _ => a.size - (intOf i).toNat)
    case atStart => exact ⟨0, 0, Nat.zero_le _, rfl, rfl, rfl⟩
    case round =>
      obtain ⟨k, n, hk, rfl, hok, hw⟩ := hrel
      have HW : Hid (wr = w.drewN n) := hw
      clear hw
      have HO : Hid (okN (byt a) (byt b) k = true) := hok
      clear hok
      by_cases hlt : k < a.size
      · have hltb : k < b.size := by rw [← HS.out]; exact hlt
        have e1 : (a[k].toNat : Int) = (byt a k : Int) := by rw [byt_at a k hlt]
        have e2 : (b[k].toNat : Int) = (byt b k : Int) := by rw [byt_at b k hltb]
        have b1 := byt_lt a k
        have b2 := byt_lt b k
        have i1 : (k : Int) < a.size := by omega
        have i2 : (k : Int) < b.size := by omega
        have i0 : (0 : Int) ≤ k := by omega
        by_cases hq : (low (byt a k) == low (byt b k)) = true
        · have HN : Hid (okN (byt a) (byt b) (k + 1) = true) := okN_succ _ _ k HO.out hq
          have hq' : ((low (byt a k) : Int) != (low (byt b k) : Int)) = false := by rw [bne, cast_beq, hq]; rfl
          clear hq
          go_wp2
          go_quiet (first | (go_at_call 10; refine Calls.quiet_of_same (lower_any _ (by assumption) _)))
          go_wp2
          go_roundw
          case rel => exact ⟨k + 1, _, by omega, by go_num, HN.out, (by rw [HW.out]; exact World.drewN_drewN _ _ _)⟩
          case measure => simp [intOf]; omega
        · have hqf : (low (byt a k) == low (byt b k)) = false := by simpa using hq
          have HN : Hid (okN (byt a) (byt b) a.size = false) := okN_bad _ _ k hqf _ hlt
          have hq' : ((low (byt a k) : Int) != (low (byt b k) : Int)) = true := by rw [bne, cast_beq, hqf]; rfl
          clear hq hqf
          go_wp2
          go_quiet (first | (go_at_call 10; refine Calls.quiet_of_same (lower_any _ (by assumption) _)))
          go_wp2
          go_ret
          exact ⟨ret_bool HN.out.symm, _, (by rw [HW.out]; exact World.drewN_drewN _ _ _)⟩
      · have e : k = a.size := by omega
        subst e
        go_wp2
        go_ret
        exact ⟨ret_bool HO.out.symm, n, HW.out⟩
  · have hs' : ((a.size : Int) != (b.size : Int)) = true := by simp; omega
    rw [ef_ne a b hs]
    clear hs
    go_enter Try.func6, Try.ntmps6
    go_wp2
    go_ret
    exact ⟨rfl, 0, rfl⟩

theorem ef_cnt (a b : ByteArray) (h : a.size = b.size) : ((cntN (byt a) (byt b) a.size : Int) == (a.size : Int)) = ef a b := by
  rw [cast_beq, cnt_ok _ _ (byt_lt a) (byt_lt b), ef_eq a b h]

set_option maxHeartbeats 1000000 in
theorem model_any (a b : ByteArray) (w : World) (ha : a.size ≤ 2000000) :
    Calls Try.prog 7 #[.string a, .string b] w fun e w' => e = .returned (.bool (ef a b)) ∧ ∃ n, w' = w.drewN n := by
  by_cases hs : a.size = b.size
  · have hs' : ((a.size : Int) != (b.size : Int)) = false := by rw [hs]; simp
    have HS : Hid (a.size = b.size) := hs
    have HE : Hid (((cntN (byt a) (byt b) a.size : Int) == (a.size : Int)) = ef a b) := ef_cnt a b hs
    clear hs
    go_enter Try.func7, Try.ntmps7
    go_wp2
    go_loopw [5, 6] (fun m i wr => ∃ k n : Nat, k ≤ a.size ∧ i = .int .i64 k ∧ m = .int .i64 (cntN (byt a) (byt b) k : Int) ∧ wr = w.drewN n) (fun _ i _ => a.size - (intOf i).toNat)
    case atStart => exact ⟨0, 0, Nat.zero_le _, rfl, rfl, rfl⟩
    case round =>
      obtain ⟨k, n, hk, rfl, rfl, hw⟩ := hrel
      have HW : Hid (wr = w.drewN n) := hw
      clear hw
      have hle := cnt_le (byt a) (byt b) k
      by_cases hlt : k < a.size
      · have hltb : k < b.size := by rw [← HS.out]; exact hlt
        have e1 : (a[k].toNat : Int) = (byt a k : Int) := by rw [byt_at a k hlt]
        have e2 : (b[k].toNat : Int) = (byt b k : Int) := by rw [byt_at b k hltb]
        have b1 := byt_lt a k
        have b2 := byt_lt b k
        have i1 : (k : Int) < a.size := by omega
        have i2 : (k : Int) < b.size := by omega
        have i0 : (0 : Int) ≤ k := by omega
        have hnx : cntN (byt a) (byt b) (k + 1) = cntN (byt a) (byt b) k + if fp (byt a k) (byt b k) then 1 else 0 := rfl
        by_cases hq : fp (byt a k) (byt b k) = true
        · have HN : Hid ((cntN (byt a) (byt b) k : Int) + 1 = (cntN (byt a) (byt b) (k + 1) : Int)) := by
            show (cntN (byt a) (byt b) k : Int) + 1 = (cntN (byt a) (byt b) (k + 1) : Int)
            rw [hnx, if_pos hq]; omega
          have HP : Hid (∀ W, Calls Try.prog 9 #[.int .u8 (byt a k : Int), .int .u8 (byt b k : Int)] W fun e w' => e = .returned (.bool true) ∧ w' = W) := fun W => by have := pair_any (byt a k) (byt b k) b1 b2 W; rw [hq] at this; exact this
          clear hnx hq
          go_wp2
          go_quiet (first | (go_at_call 9; refine Calls.quiet_of_same (HP.out _)))
          go_wp2
          go_roundw
          case rel => exact ⟨k + 1, _, by omega, by go_num, by rw [HN.out], (by rw [HW.out]; exact World.drewN_drewN _ _ _)⟩
          case measure => simp [intOf]; omega
        · have hqf : fp (byt a k) (byt b k) = false := by simpa using hq
          have HN : Hid ((cntN (byt a) (byt b) k : Int) = (cntN (byt a) (byt b) (k + 1) : Int)) := by
            show (cntN (byt a) (byt b) k : Int) = (cntN (byt a) (byt b) (k + 1) : Int)
            rw [hnx, if_neg hq]; omega
          have HP : Hid (∀ W, Calls Try.prog 9 #[.int .u8 (byt a k : Int), .int .u8 (byt b k : Int)] W fun e w' => e = .returned (.bool false) ∧ w' = W) := fun W => by have := pair_any (byt a k) (byt b k) b1 b2 W; rw [hqf] at this; exact this
          clear hnx hq hqf
          go_wp2
          go_quiet (first | (go_at_call 9; refine Calls.quiet_of_same (HP.out _)))
          go_wp2
          go_roundw
          case rel => exact ⟨k + 1, _, by omega, by go_num, by rw [HN.out], (by rw [HW.out]; exact World.drewN_drewN _ _ _)⟩
          case measure => simp [intOf]; omega
      · have e : k = a.size := by omega
        subst e
        go_wp2
        go_ret
        exact ⟨ret_bool HE.out, n, HW.out⟩
  · have hs' : ((a.size : Int) != (b.size : Int)) = true := by simp; omega
    rw [ef_ne a b hs]
    clear hs
    go_enter Try.func7, Try.ntmps7
    go_wp2
    go_ret
    exact ⟨rfl, 0, rfl⟩

theorem bytes5 (a b : ByteArray) (k : Int) (w : World) (ha : a.size ≤ maxLen) (hb : b.size ≤ maxLen) :
    Calls Try.prog 5 #[.string a, .string b, .int .i64 k] w fun e w' => (∃ r : Bool, e = .returned (.bool r)) ∧ w' = w := by
  unfold maxLen at ha hb
  go_enter Try.func5, Try.ntmps5
  go_wp2
  all_goals
    go_ret
    exact ⟨⟨_, rfl⟩, rfl⟩

end Go.Proofs.Qxb6621683a.Asc
