/-
  The contract of closerByFirstDifferingBit (7): it answers as the comparison of the two exclusive ors does.
-/
import Derived.Test.Qxb6619661aCmp
namespace Go.Proofs.Qxb6619661a.Ks
open Go.ChangeShapes Go.WideShapes Go.ChangeAt Go.RowKit
open Extern.Stop (cell)

/-! ### the plain law on bits -/
theorem shr_xor (a b n : Nat) : (a ^^^ b) / 2 ^ n = (a / 2 ^ n) ^^^ (b / 2 ^ n) := by
  rw [← Nat.shiftRight_eq_div_pow, ← Nat.shiftRight_eq_div_pow, ← Nat.shiftRight_eq_div_pow, Nat.shiftRight_xor_distrib]
theorem half_xor (a b : Nat) : (a ^^^ b) / 2 = (a / 2) ^^^ (b / 2) := shr_xor a b 1

theorem lt_low (T P Q : Nat) (h : P / 2 = Q / 2) (hd : P % 2 ≠ Q % 2) (ht : T % 2 = P % 2) : T ^^^ P < T ^^^ Q := by
  have e1 := half_xor T P
  have e2 := half_xor T Q
  rw [h] at e1
  have m1 : ((T ^^^ P) % 2 = 1) ↔ ¬ ((T % 2 = 1) ↔ (P % 2 = 1)) := Nat.xor_mod_two_eq_one
  have m2 : ((T ^^^ Q) % 2 = 1) ↔ ¬ ((T % 2 = 1) ↔ (Q % 2 = 1)) := Nat.xor_mod_two_eq_one
  omega

theorem lt_bits (t p q n : Nat) (h : p / 2 ^ (n + 1) = q / 2 ^ (n + 1)) (hd : p / 2 ^ n % 2 ≠ q / 2 ^ n % 2) (ht : t / 2 ^ n % 2 = p / 2 ^ n % 2) : t ^^^ p < t ^^^ q := by
  have h' : p / 2 ^ n / 2 = q / 2 ^ n / 2 := by rw [Nat.div_div_eq_div_mul, Nat.div_div_eq_div_mul, ← Nat.pow_succ]; exact h
  have := lt_low _ _ _ h' hd ht
  rw [← shr_xor, ← shr_xor] at this
  exact Nat.lt_of_div_lt_div this

theorem eq_bits (p q n : Nat) (h : p / 2 ^ (n + 1) = q / 2 ^ (n + 1)) (hd : p / 2 ^ n % 2 = q / 2 ^ n % 2) : p / 2 ^ n = q / 2 ^ n := by
  have h' : p / 2 ^ n / 2 = q / 2 ^ n / 2 := by rw [Nat.div_div_eq_div_mul, Nat.div_div_eq_div_mul, ← Nat.pow_succ]; exact h
  omega

theorem bit_form (c : UInt8) (m : Nat) : bits .and .u8 ((c.toNat : Int) / 2 ^ m) 1 = ((c.toNat / 2 ^ m % 2 : Nat) : Int) := by
  have e : (c.toNat : Int) / 2 ^ m = ((c.toNat / 2 ^ m : Nat) : Int) := by simp
  rw [e]
  have hc : c.toNat / 2 ^ m < 256 := Nat.lt_of_le_of_lt (Nat.div_le_self _ _) (UInt8.toNat_lt c)
  have := u8_and_nat (c.toNat / 2 ^ m) 1 hc (by decide)
  rw [Nat.and_one_is_mod] at this
  exact this

theorem ne_cast {a b : Nat} (h : ¬ a = b) : ((a : Int) != (b : Int)) = true := by simp; omega
theorem beq_cast {a b : Nat} (h : ¬ a = b) : ((a : Int) == (b : Int)) = false := by simp; omega

theorem xr_at (ts ps : List UInt8) (k : Nat) (h1 : k < ts.length) (h2 : k < ps.length) (h : k < (xr ts ps).length) : (xr ts ps)[k].toNat = ts[k].toNat ^^^ ps[k].toNat := by
  simp [xr]

/-- three rows lie where they lie; what was there before the call is as it was -/
structure Tri (w : World) (gt gp gq : Nat) (ts ps qs : List UInt8) (W : World) : Prop where
  t : W.heap[gt]? = some (.cells (A ts) 22)
  p : W.heap[gp]? = some (.cells (A ps) 22)
  q : W.heap[gq]? = some (.cells (A qs) 22)
  below : Below w.heap.size w W

theorem Tri.drewN {w : World} {gt gp gq : Nat} {ts ps qs : List UInt8} {W : World} (h : Tri w gt gp gq ts ps qs W) (n : Nat) : Tri w gt gp gq ts ps qs (W.drewN n) :=
  ⟨h.t, h.p, h.q, below_drewN h.below n⟩

set_option maxHeartbeats 1000000 in
theorem clos_any (ts ps qs : List UInt8) (lt : ts.length = 32) (lp : ps.length = 32) (lq : qs.length = 32) (w : World) :
    Calls Try.prog 7 #[.agg (A ts), .agg (A ps), .agg (A qs)] w fun e w' => e = .returned (.int .i64 (cmpL (xr ts ps) (xr ts qs))) ∧ Below w.heap.size w w' := by
  have lX : (xr ts ps).length = 32 := xr_len ts ps lt lp
  have lY : (xr ts qs).length = 32 := xr_len ts qs lt lq
  go_enter Try.func7, Try.ntmps7
  go_wp2_with (first
    | (refine box_letter rfl 22 _ rfl (A ts) rfl ?_; intro w1 n1)
    | (refine box_letter rfl 22 _ rfl (A ps) rfl ?_; intro w2 n2)
    | (refine box_letter rfl 22 _ rfl (A qs) rfl ?_; intro w3 n3))
  have H3 : Hid (Tri w w.heap.size w1.heap.size w2.heap.size ts ps qs w3) := ⟨n3.old (n2.old n1.row), n3.old n2.row, n3.row, (n1.below.trans (n2.below.mono (Nat.le_of_lt n1.lt))).trans (n3.below.mono (Nat.le_of_lt (Nat.lt_trans n1.lt n2.lt)))⟩
  clear n1 n2 n3
  go_loopw [7] (fun i wr => ∃ k : Nat, k ≤ 32 ∧ i = .int .i64 k ∧ cmpL (xr ts ps) (xr ts qs) = cmpL ((xr ts ps).drop k) ((xr ts qs).drop k) ∧ Tri w w.heap.size w1.heap.size w2.heap.size ts ps qs wr) (fun i _ => 32 - (intOf i).toNat)
  case atStart => exact ⟨0, Nat.zero_le _, rfl, rfl, H3.out⟩
  case round =>
    obtain ⟨k, hk, rfl, he, ht⟩ := hrel
    have HE : Hid (cmpL (xr ts ps) (xr ts qs) = cmpL ((xr ts ps).drop k) ((xr ts qs).drop k)) := he
    have HT : Hid (Tri w w.heap.size w1.heap.size w2.heap.size ts ps qs wr) := ht
    clear he ht H3
    by_cases hlt : k < 32
    · have ct := cell_at HT.out.t k (by omega)
      have cp := cell_at HT.out.p k (by omega)
      have cq := cell_at HT.out.q k (by omega)
      have hkX : k < (xr ts ps).length := by omega
      have hkY : k < (xr ts qs).length := by omega
      have eX := xr_at ts ps k (by omega) (by omega) hkX
      have eY := xr_at ts qs k (by omega) (by omega) hkY
      have hlt' : (k : Int) < 32 := by omega
      have hlt0 : (0 : Int) ≤ k := by omega
      have EX : Hid ((xr ts ps)[k].toNat = (ts[k]'(by omega)).toNat ^^^ (ps[k]'(by omega)).toNat) := eX
      have EY : Hid ((xr ts qs)[k].toNat = (ts[k]'(by omega)).toNat ^^^ (qs[k]'(by omega)).toNat) := eY
      clear eX eY
      generalize htc : (ts[k]'(by omega)) = tc at *
      generalize hpc : (ps[k]'(by omega)) = pc at *
      generalize hqc : (qs[k]'(by omega)) = qc at *
      clear htc hpc hqc
      by_cases hne : pc.toNat = qc.toNat
      · have HN : Hid (cmpL (xr ts ps) (xr ts qs) = cmpL ((xr ts ps).drop (k + 1)) ((xr ts qs).drop (k + 1))) :=
          HE.out.trans (cmp_eq hkX hkY (by rw [EX.out, EY.out, hne]; exact Nat.lt_irrefl _) (by rw [EX.out, EY.out, hne]; exact Nat.lt_irrefl _))
        have hne' : ((pc.toNat : Int) != (qc.toNat : Int)) = false := by simp; omega
        clear hne
        go_wp2
        go_quiet (fail)
        go_wp2
        go_roundw
        case rel => exact ⟨k + 1, by omega, by go_num, HN.out, HT.out.drewN _⟩
        case measure => simp [intOf]; omega
      · have hne' : ((pc.toNat : Int) != (qc.toNat : Int)) = true := by simp; omega
        have HNE : Hid (¬ pc.toNat = qc.toNat) := hne
        clear hne
        have hp8 : pc.toNat / 2 ^ 8 = qc.toNat / 2 ^ 8 := by rw [Nat.div_eq_of_lt (UInt8.toNat_lt pc), Nat.div_eq_of_lt (UInt8.toNat_lt qc)]
        have HP8 : Hid (pc.toNat / 2 ^ 8 = qc.toNat / 2 ^ 8) := hp8
        clear hp8
        go_wp2
        go_quiet (fail)
        go_wp2
        go_loop [8] (fun i => ∃ m : Nat, m ≤ 8 ∧ i = .int .i64 ((m : Int) - 1) ∧ pc.toNat / 2 ^ m = qc.toNat / 2 ^ m) (fun i => (intOf i + 1).toNat)
        case atStart => exact ⟨8, Nat.le_refl _, rfl, HP8.out⟩
        case round =>
          obtain ⟨m, hm, rfl, hq⟩ := hrel
          have HQ : Hid (pc.toNat / 2 ^ m = qc.toNat / 2 ^ m) := hq
          clear hq HP8
          cases m with
          | zero => exact absurd (by simpa using HQ.out) HNE.out
          | succ m =>
            have ek : (((m + 1 : Nat) : Int) - 1) = (m : Int) := by omega
            rw [ek]
            clear ek
            have hm8 : (m : Int) < 8 := by omega
            by_cases hd : pc.toNat / 2 ^ m % 2 = qc.toNat / 2 ^ m % 2
            · have HN : Hid (pc.toNat / 2 ^ m = qc.toNat / 2 ^ m) := eq_bits _ _ _ HQ.out hd
              have hd' : (bits .and .u8 ((pc.toNat : Int) / 2 ^ m) 1 != bits .and .u8 ((qc.toNat : Int) / 2 ^ m) 1) = false := by rw [bit_form, bit_form, hd]; simp
              clear hd
              go_wp2
              go_round
              case rel => exact ⟨m, by omega, rfl, HN.out⟩
              case measure => simp [intOf]
            · have hd' : (bits .and .u8 ((pc.toNat : Int) / 2 ^ m) 1 != bits .and .u8 ((qc.toNat : Int) / 2 ^ m) 1) = true := by rw [bit_form, bit_form]; exact ne_cast hd
              by_cases hb : tc.toNat / 2 ^ m % 2 = pc.toNat / 2 ^ m % 2
              · have HN : Hid (cmpL (xr ts ps) (xr ts qs) = -1) := HE.out.trans (cmp_lt hkX hkY (by rw [EX.out, EY.out]; exact lt_bits _ _ _ _ HQ.out hd hb))
                have hb' : (bits .and .u8 ((tc.toNat : Int) / 2 ^ m) 1 == bits .and .u8 ((pc.toNat : Int) / 2 ^ m) 1) = true := by rw [bit_form, bit_form, hb]; simp
                clear hd hb
                go_wp2
                go_ret
                exact ⟨ret_int HN.out.symm, (HT.out.drewN _).below⟩
              · have hb2 : tc.toNat / 2 ^ m % 2 = qc.toNat / 2 ^ m % 2 := by omega
                have HN : Hid (cmpL (xr ts ps) (xr ts qs) = 1) := HE.out.trans (cmp_gt hkX hkY (by rw [EX.out, EY.out]; exact lt_bits _ _ _ _ HQ.out.symm (fun e => hd e.symm) hb2))
                have hb' : (bits .and .u8 ((tc.toNat : Int) / 2 ^ m) 1 == bits .and .u8 ((pc.toNat : Int) / 2 ^ m) 1) = false := by rw [bit_form, bit_form]; exact beq_cast hb
                clear hd hb hb2
                go_wp2
                go_ret
                exact ⟨ret_int HN.out.symm, (HT.out.drewN _).below⟩
    · have e : k = 32 := by omega
      subst e
      go_wp2
      go_ret
      exact ⟨ret_int (by rw [HE.out, cmp_end lX]), HT.out.below⟩

end Go.Proofs.Qxb6619661a.Ks
