/-
  The contract of cmpBigEndian32 (6).
-/
import Derived.Test.Qxb6619661aLaws
import Derived.Deep.QuietTactic
import Derived.BigQuiet
import Derived.WalkSmall
namespace Go.Proofs.Qxb6619661a.Ks
open Go.ChangeShapes Go.WideShapes Go.ChangeAt Go.RowKit
open Extern.Stop (cell)

/-- two rows of bytes compared as big-endian numbers -/
def cmpL : List UInt8 → List UInt8 → Int
  | x :: xs, y :: ys => if x.toNat < y.toNat then -1 else if y.toNat < x.toNat then 1 else cmpL xs ys
  | _, _ => 0

theorem ret_int {k : IntKind} {a b : Int} (h : a = b) : Ending.returned (.int k a) = .returned (.int k b) := by rw [h]

theorem drop_at (xs : List UInt8) (k : Nat) (h : k < xs.length) : xs.drop k = xs[k] :: xs.drop (k + 1) := List.drop_eq_getElem_cons h

theorem cmp_lt {xs ys : List UInt8} {k : Nat} (hx : k < xs.length) (hy : k < ys.length) (h : xs[k].toNat < ys[k].toNat) : cmpL (xs.drop k) (ys.drop k) = -1 := by
  rw [drop_at xs k hx, drop_at ys k hy]; unfold cmpL; rw [if_pos h]
theorem cmp_gt {xs ys : List UInt8} {k : Nat} (hx : k < xs.length) (hy : k < ys.length) (h : ys[k].toNat < xs[k].toNat) : cmpL (xs.drop k) (ys.drop k) = 1 := by
  rw [drop_at xs k hx, drop_at ys k hy]; unfold cmpL; rw [if_neg (by omega), if_pos h]
theorem cmp_eq {xs ys : List UInt8} {k : Nat} (hx : k < xs.length) (hy : k < ys.length) (h : ¬ xs[k].toNat < ys[k].toNat) (h' : ¬ ys[k].toNat < xs[k].toNat) : cmpL (xs.drop k) (ys.drop k) = cmpL (xs.drop (k + 1)) (ys.drop (k + 1)) := by
  rw [drop_at xs k hx, drop_at ys k hy]
  show (if xs[k].toNat < ys[k].toNat then -1 else if ys[k].toNat < xs[k].toNat then 1 else cmpL (xs.drop (k + 1)) (ys.drop (k + 1))) = _
  rw [if_neg h, if_neg h']
theorem cmp_end {xs ys : List UInt8} (hx : xs.length = 32) : cmpL (xs.drop 32) (ys.drop 32) = 0 := by
  rw [List.drop_of_length_le (by omega)]; rfl

/-- two rows lie where they lie; what was there before the call is as it was -/
structure Two (w : World) (gx gy : Nat) (xs ys : List UInt8) (W : World) : Prop where
  x : W.heap[gx]? = some (.cells (A xs) 22)
  y : W.heap[gy]? = some (.cells (A ys) 22)
  below : Below w.heap.size w W

theorem Two.drewN {w : World} {gx gy : Nat} {xs ys : List UInt8} {W : World} (h : Two w gx gy xs ys W) (n : Nat) : Two w gx gy xs ys (W.drewN n) :=
  ⟨h.x, h.y, below_drewN h.below n⟩

theorem cell_at {W : World} {g : Nat} {xs : List UInt8} {t : TypeId} (h : W.heap[g]? = some (.cells (A xs) t)) (k : Nat) (hk : k < xs.length) : W.cell? ⟨g, k, none⟩ = some (.int .u8 (xs[k].toNat : Int)) :=
  (cell_of_row _ _ _ _ _ _ h).trans (A_get xs k hk)

set_option maxHeartbeats 1000000 in
theorem cmp_any (xs ys : List UInt8) (lx : xs.length = 32) (ly : ys.length = 32) (w : World) :
    Calls Try.prog 6 #[.agg (A xs), .agg (A ys)] w fun e w' => e = .returned (.int .i64 (cmpL xs ys)) ∧ Below w.heap.size w w' := by
  go_enter Try.func6, Try.ntmps6
  go_wp2_with (first
    | (refine box_letter rfl 22 _ rfl (A xs) rfl ?_; intro w1 n1)
    | (refine box_letter rfl 22 _ rfl (A ys) rfl ?_; intro w2 n2))
  have H2 : Hid (Two w w.heap.size w1.heap.size xs ys w2) := ⟨n2.old n1.row, n2.row, n1.below.trans (n2.below.mono (Nat.le_of_lt n1.lt))⟩
  clear n1 n2
  go_loopw [5] (fun i wr => ∃ k : Nat, k ≤ 32 ∧ i = .int .i64 k ∧ cmpL xs ys = cmpL (xs.drop k) (ys.drop k) ∧ Two w w.heap.size w1.heap.size xs ys wr) (fun i _ => 32 - (intOf i).toNat)
  case atStart => exact ⟨0, Nat.zero_le _, rfl, rfl, H2.out⟩
  case round =>
    obtain ⟨k, hk, rfl, he, ht⟩ := hrel
    have HE : Hid (cmpL xs ys = cmpL (xs.drop k) (ys.drop k)) := he
    have HT : Hid (Two w w.heap.size w1.heap.size xs ys wr) := ht
    clear he ht H2
    by_cases hlt : k < 32
    · have ca := cell_at HT.out.x k (by omega)
      have cb := cell_at HT.out.y k (by omega)
      have hlt' : (k : Int) < 32 := by omega
      have hlt0 : (0 : Int) ≤ k := by omega
      have hkx : k < xs.length := by omega
      have hky : k < ys.length := by omega
      by_cases h1 : xs[k].toNat < ys[k].toNat
      · have HR : Hid (cmpL xs ys = -1) := HE.out.trans (cmp_lt hkx hky h1)
        have h1' : (xs[k].toNat : Int) < (ys[k].toNat : Int) := by omega
        go_wp2
        go_quiet (fail)
        go_wp2
        go_ret
        exact ⟨ret_int HR.out.symm, (HT.out.drewN _).below⟩
      · by_cases h2 : ys[k].toNat < xs[k].toNat
        · have HR : Hid (cmpL xs ys = 1) := HE.out.trans (cmp_gt hkx hky h2)
          go_wp2
          go_quiet (fail)
          go_wp2
          go_quiet (fail)
          go_wp2
          go_ret
          exact ⟨ret_int HR.out.symm, ((HT.out.drewN _).drewN _).below⟩
        · have HR : Hid (cmpL xs ys = cmpL (xs.drop (k + 1)) (ys.drop (k + 1))) := HE.out.trans (cmp_eq hkx hky h1 h2)
          go_wp2
          go_quiet (fail)
          go_wp2
          go_quiet (fail)
          go_wp2
          go_roundw
          case rel => exact ⟨k + 1, by omega, by go_num, HR.out, HT.out.drewN _⟩
          case measure => simp [intOf]; omega
    · have e : k = 32 := by omega
      subst e
      go_wp2
      go_ret
      exact ⟨ret_int (by rw [HE.out, cmp_end lx]), HT.out.below⟩

end Go.Proofs.Qxb6619661a.Ks
