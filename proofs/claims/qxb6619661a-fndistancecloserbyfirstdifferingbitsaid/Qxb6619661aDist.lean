/-
  The contract of keyspace.Distance (5): two arrays of 32 bytes by value; the third, byte by byte their exclusive or.
-/
import Derived.Test.Qxb6619661aRows
import Derived.WalkKit
import Derived.ProofKit
import Derived.OpenShut
import Derived.Below
import Derived.RegionTactic
import Derived.Stop.BytesEq
import Derived.Deep.WholeRow
import Derived.Outline
import Derived.Laws.BitsAllLaws
namespace Go.Proofs.Qxb6619661a.Ks
open Go.ChangeShapes Go.WideShapes Go.ChangeAt Go.RowKit
open Extern.Stop (cell)

/-- the cells of a row of bytes -/
def A (xs : List UInt8) : Array Value := (xs.map cell).toArray
theorem A_size (xs : List UInt8) : (A xs).size = xs.length := by simp [A]
theorem A_get (xs : List UInt8) (k : Nat) (h : k < xs.length) : (A xs)[k]? = some (.int .u8 (xs[k].toNat : Int)) := by
  simp [A, cell, h]
theorem A_all (xs : List UInt8) : (A xs).all (·.oneCell') = true := by
  rw [Array.all_eq_true_iff_forall_mem]
  intro v hv
  simp [A] at hv
  obtain ⟨c, _, rfl⟩ := hv
  rfl

/-- byte by byte the exclusive or -/
def xr (xs ys : List UInt8) : List UInt8 := List.zipWith (· ^^^ ·) xs ys

/-- d behind k rounds -/
def D (xs ys : List UInt8) (k : Nat) : List UInt8 := (List.zipWith (· ^^^ ·) xs ys).take k ++ List.replicate (32 - k) 0

theorem info23 : (Try.prog.info? 23).map (·.size) = some 32 := by kernel_rfl

/-- the world behind k rounds -/
def St (w : World) (xs ys : List UInt8) (k : Nat) (wr : World) : Prop :=
  Below w.heap.size w wr ∧ wr.heap.size = w.heap.size + 4 ∧ wr.heap[w.heap.size]? = some (.cells (A xs) 23) ∧ wr.heap[w.heap.size + 1]? = some (.cells (A ys) 23) ∧
  (∃ Z : Array Value, Z.size = 32 ∧ wr.heap[w.heap.size + 1 + 1]? = some (.cells Z 23)) ∧ wr.heap[w.heap.size + 1 + 1 + 1]? = some (.cells (A (D xs ys k)) 23)

theorem St_start (w : World) (xs ys : List UInt8) : St w xs ys 0 ((((w.alloc (.cells (A xs) 23)).alloc (.cells (A ys) 23)).alloc (.cells (A (List.replicate 32 0)) 23)).alloc (.cells (A (List.replicate 32 0)) 23)) := by
  have e : D xs ys 0 = List.replicate 32 0 := by simp [D]
  have s1 (o : Obj) : (w.alloc o).heap.size = w.heap.size + 1 := by simp
  have s2 (o o' : Obj) : ((w.alloc o).alloc o').heap.size = w.heap.size + 1 + 1 := by simp
  have s3 (o o' o'' : Obj) : (((w.alloc o).alloc o').alloc o'').heap.size = w.heap.size + 1 + 1 + 1 := by simp
  refine ⟨((((Below.refl _ _).alloc (Nat.le_refl _) _).alloc (by simp) _).alloc (by simp; omega) _).alloc (by simp; omega) _, by simp, ?_, ?_, ⟨A (List.replicate 32 0), by rw [A_size]; rfl, ?_⟩, ?_⟩
  · rw [Below.heap_alloc _ _ _ (by simp; omega), Below.heap_alloc _ _ _ (by simp; omega), Below.heap_alloc _ _ _ (by simp)]
    exact heap_alloc_new _ _
  · rw [Below.heap_alloc _ _ _ (by simp), Below.heap_alloc _ _ _ (by simp)]
    have h := heap_alloc_new (w.alloc (.cells (A xs) 23)) (.cells (A ys) 23)
    rwa [s1] at h
  · rw [Below.heap_alloc _ _ _ (by simp)]
    have h := heap_alloc_new ((w.alloc (.cells (A xs) 23)).alloc (.cells (A ys) 23)) (.cells (A (List.replicate 32 0)) 23)
    rwa [s2] at h
  · have h := heap_alloc_new (((w.alloc (.cells (A xs) 23)).alloc (.cells (A ys) 23)).alloc (.cells (A (List.replicate 32 0)) 23)) (.cells (A (List.replicate 32 0)) 23)
    rw [s3] at h
    rw [e]
    exact h

theorem xor_cell (a b : UInt8) : bits .xor .u8 (a.toNat : Int) (b.toNat : Int) = ((a ^^^ b).toNat : Int) := by
  rw [u8_xor_nat _ _ (UInt8.toNat_lt a) (UInt8.toNat_lt b), UInt8.toNat_xor]

theorem D_len (xs ys : List UInt8) (hx : xs.length = 32) (hy : ys.length = 32) (k : Nat) (h : k ≤ 32) : (D xs ys k).length = 32 := by
  simp [D, hx, hy]; omega

theorem D_step (xs ys : List UInt8) (hx : xs.length = 32) (hy : ys.length = 32) (k : Nat) (h : k < 32) :
    (A (D xs ys k)).setIfInBounds k (.int .u8 (bits .xor .u8 ((xs[k]'(by omega)).toNat : Int) ((ys[k]'(by omega)).toNat : Int))) = A (D xs ys (k + 1)) := by
  rw [xor_cell]
  have e : D xs ys (k + 1) = (D xs ys k).set k ((xs[k]'(by omega)) ^^^ (ys[k]'(by omega))) := by
    apply List.ext_getElem
    · rw [D_len xs ys hx hy _ (by omega), List.length_set, D_len xs ys hx hy _ (by omega)]
    · intro i h1 h2
      rw [D_len xs ys hx hy _ (by omega)] at h1
      rw [List.getElem_set]
      have hz : (List.zipWith (· ^^^ ·) xs ys).length = 32 := by simp [hx, hy]
      by_cases hik : k = i
      · subst hik
        simp only [D, if_true]
        rw [List.getElem_append_left (by simp [hx, hy]; omega)]
        simp
      · rw [if_neg hik]
        simp only [D]
        by_cases hlt : i < k
        · rw [List.getElem_append_left (by simp [hx, hy]; omega), List.getElem_append_left (by simp [hx, hy]; omega)]
          simp
        · rw [List.getElem_append_right (by simp [hx, hy]; omega), List.getElem_append_right (by simp [hx, hy]; omega)]
          simp
  rw [e]
  unfold A
  rw [List.map_set]
  simp [cell]

theorem St_step {w wr : World} {xs ys : List UInt8} (hx : xs.length = 32) (hy : ys.length = 32) {k : Nat} (hk : k < 32) (h : St w xs ys k wr) :
    St w xs ys (k + 1) ((wr.setCell ⟨w.heap.size + 1 + 1 + 1, k, none⟩ (.int .u8 (bits .xor .u8 ((xs[k]'(by omega)).toNat : Int) ((ys[k]'(by omega)).toNat : Int)))).drew) := by
  obtain ⟨h1, h2, h3, h4, ⟨Z, hZ, h5⟩, h6⟩ := h
  refine ⟨(h1.setCell (by simp; omega) _).drew, ?_, ?_, ?_, ⟨Z, hZ, ?_⟩, ?_⟩
  · rw [heap_drew]; simpa [World.setCell] using h2
  · rw [heap_drew, heap_setCell_other _ _ _ _ (by simp; omega)]; exact h3
  · rw [heap_drew, heap_setCell_other _ _ _ _ (by simp)]; exact h4
  · rw [heap_drew, heap_setCell_other _ _ _ _ (by simp)]; exact h5
  · rw [heap_drew, heap_setCell_same _ _ _ _ _ _ h6, D_step xs ys hx hy k hk]

theorem D_end (xs ys : List UInt8) (hx : xs.length = 32) (hy : ys.length = 32) : D xs ys 32 = xr xs ys := by
  simp [xr, D, List.take_of_length_le, hx, hy]

theorem xr_len (xs ys : List UInt8) (hx : xs.length = 32) (hy : ys.length = 32) : (xr xs ys).length = 32 := by simp [xr, hx, hy]

theorem info23A (zs : List UInt8) (h : zs.length = 32) : (Try.prog.info? 23).map (·.size) = some (A zs).size := by rw [A_size, h]; exact info23

theorem below_setRow {B : Nat} {w wr : World} (h : Below B w wr) {g : Nat} (hg : B ≤ g) (cs : Array Value) : Below B w (wr.setRow g cs) :=
  h.trans ⟨rfl, rfl, rfl, by simp, fun k hk => setRow_other wr g k cs (by omega)⟩

set_option maxHeartbeats 400000 in
theorem dist_any (xs ys : List UInt8) (hx : xs.length = 32) (hy : ys.length = 32) (w : World) :
    Calls Try.prog 5 #[.agg (A xs), .agg (A ys)] w fun e w' => e = .returned (.agg (A (xr xs ys))) ∧ Below w.heap.size w w' := by
  go_enter Try.func5, Try.ntmps5
  go_wp2
  go_loopw [7] (fun i wr => ∃ k : Nat, k ≤ 32 ∧ i = .int .i64 k ∧ St w xs ys k wr) (fun i _ => 32 - (intOf i).toNat)
  case atStart => exact ⟨0, Nat.zero_le _, rfl, St_start w xs ys⟩
  case round =>
    obtain ⟨k, hk, rfl, hst⟩ := hrel
    by_cases hlt : k < 32
    · have HS : Hid (St w xs ys (k + 1) ((wr.setCell ⟨w.heap.size + 1 + 1 + 1, k, none⟩ (.int .u8 (bits .xor .u8 ((xs[k]'(by omega)).toNat : Int) ((ys[k]'(by omega)).toNat : Int)))).drew)) := St_step hx hy hlt hst
      obtain ⟨h1, h2, h3, h4, ⟨Z, hZ, h5⟩, h6⟩ := hst
      have ca : wr.cell? ⟨w.heap.size, k, none⟩ = some (.int .u8 ((xs[k]'(by omega)).toNat : Int)) := (cell_of_row _ _ _ _ _ _ h3).trans (A_get xs k (by omega))
      have cb : wr.cell? ⟨w.heap.size + 1, k, none⟩ = some (.int .u8 ((ys[k]'(by omega)).toNat : Int)) := (cell_of_row _ _ _ _ _ _ h4).trans (A_get ys k (by omega))
      have cd := (cell_of_row _ _ _ _ _ _ h6).trans (A_get (D xs ys k) k (by rw [D_len xs ys hx hy k (by omega)]; exact hlt))
      have fd : wr.frozen? ⟨w.heap.size + 1 + 1 + 1, k, none⟩ = false := frozen_of_row _ _ _ _ _ h6
      clear h1 h2 h3 h4 h5 h6
      go_wp2
      go_region
      go_wp2
      go_roundw
      case rel => exact ⟨k + 1, by omega, by go_num, HS.out⟩
      case measure => simp [intOf]; omega
    · obtain rfl : k = 32 := by omega
      obtain ⟨h1, h2, h3, h4, ⟨Z, hZ, h5⟩, h6⟩ := hst
      rw [D_end xs ys hx hy] at h6
      have hz := xr_len xs ys hx hy
      clear h2 h3 h4
      go_wp2_with (first
        | refine wpList_load_row rfl 23 _ rfl (w.heap.size + 1 + 1 + 1) rfl 23 _ (0, 0) _ h6 Try.underlying23 rfl (info23A _ hz) ?_
        | refine wpList_store_row rfl 23 _ _ rfl (w.heap.size + 1 + 1) (A (xr xs ys)) rfl rfl 23 Z h5 (info23A _ hz) (by rw [A_size, hz, hZ]) (A_all _) ?_)
      exact bodyPost_ret (v := .agg (A (xr xs ys))) (results_cell_row Try.results5 _ _ (w.heap.size + 1 + 1) 23 _ (0, 0) _ rfl (setRow_heap _ _ _ _ _ _ h5) Try.underlying23 rfl (info23A _ hz)) rfl ⟨rfl, below_setRow h1 (by omega) _⟩

end Go.Proofs.Qxb6619661a.Ks
