/-
  Laws for whole arrays of 32 bytes, the world behind each step a letter: a box, a new variable that is stored to at once; equality of two such arrays.
-/
import Derived.Test.Qxb6619661aDist
import Derived.Deep.RegionHeld3
import Derived.Deep.MidRow
namespace Go.Proofs.Qxb6619661a.Ks
open Go.ChangeShapes Go.WideShapes Go.ChangeAt Go.RowKit
open Extern.Stop (cell)

/-- w' is w with one block more, the cells cs -/
structure New (w w' : World) (cs : Array Value) (t : TypeId) : Prop where
  below : Below w.heap.size w w'
  lt : w.heap.size < w'.heap.size
  row : w'.heap[w.heap.size]? = some (.cells cs t)

theorem New.mk' (w : World) (cs : Array Value) (t : TypeId) : New w (w.alloc (.cells cs t)) cs t :=
  ⟨(Below.refl _ _).alloc (Nat.le_refl _) _, by simp, heap_alloc_new _ _⟩

theorem New.old {w w' : World} {cs : Array Value} {t : TypeId} (h : New w w' cs t) {g : Nat} {o : Obj} (hg : w.heap[g]? = some o) : w'.heap[g]? = some o :=
  (h.below.block g (Array.getElem?_eq_some_iff.1 hg).1).trans hg

theorem below_old {w w' : World} (h : Below w.heap.size w w') {g : Nat} {o : Obj} (hg : w.heap[g]? = some o) : w'.heap[g]? = some o :=
  (h.block g (Array.getElem?_eq_some_iff.1 hg).1).trans hg

section
variable {P : Program} {ops : Array Oper} {rest : List Oper} {o o1 o2 : Oper} {a : Act} {w : World} {Q : Exit → Act → World → Prop}

theorem box_letter (hg : o.guard = none) (t : TypeId) (x : Operand) (ho : o.op = .box t x) (cs : Array Value) (hx : a.eval x = .agg cs)
    (h : ∀ w', New w w' cs t → wpList P ops Q rest (a.put o.dst (.pointer (some ⟨w.heap.size, 0, none⟩))) w') : wpList P ops Q (o :: rest) a w := by
  refine wpList_plain hg fun K hK => ?_
  unfold Oper.wp execOp
  simp only [ho, hx, Sem.run_bind, Instr.box, newVar, newRow, run_newObj_alloc, Sem.run_pure, Result.andThen_ok, Value.cells]
  exact hK _ _ (h _ (New.mk' w cs t))

/-- a new variable of type t, and a store of the whole array into it -/
theorem var_letter (hg1 : o1.guard = none) (hg2 : o2.guard = none) (t : TypeId) (ho1 : o1.op = .alloc t) (x y : Operand) (ho2 : o2.op = .store t x y) (Z cs : Array Value) (n : Nat)
    (hz : (P.info? t).map (fun i => (i.zero, i.size)) = some (some (.agg Z), n)) (hZ : Z.size = n) (hn : cs.size = n) (h1 : cs.all (·.oneCell') = true)
    (hx : (a.put o1.dst (.pointer (some ⟨w.heap.size, 0, none⟩))).eval x = .pointer (some ⟨w.heap.size, 0, none⟩)) (hy : (a.put o1.dst (.pointer (some ⟨w.heap.size, 0, none⟩))).eval y = .agg cs)
    (h : ∀ w', New w w' cs t → wpList P ops Q rest ((a.put o1.dst (.pointer (some ⟨w.heap.size, 0, none⟩))).put o2.dst undef) w') : wpList P ops Q (o1 :: o2 :: rest) a w := by
  obtain ⟨hz0, hi⟩ := zero_of_info hz
  refine wpList_plain hg1 fun K hK => ?_
  unfold Oper.wp execOp
  simp only [ho1, Instr.alloc, Sem.run_bind, hz0, newVar, newRow, run_newObj_alloc, Sem.run_pure, Result.andThen_ok, Value.cells]
  refine hK _ _ ?_
  refine wpList_store_row hg2 t x y ho2 w.heap.size cs hx hy t Z (heap_alloc_new _ _) (by rw [hi, hn]) (by rw [hZ, hn]) h1 ?_
  rw [World.setRow_alloc_new]
  exact h _ (New.mk' w cs t)

/-- a new variable of type t, its zero value in it -/
theorem alloc_letter (hg : o.guard = none) (t : TypeId) (ho : o.op = .alloc t) (Z : Array Value) (n : Nat) (hz : (P.info? t).map (fun i => (i.zero, i.size)) = some (some (.agg Z), n))
    (h : ∀ w', New w w' Z t → wpList P ops Q rest (a.put o.dst (.pointer (some ⟨w.heap.size, 0, none⟩))) w') : wpList P ops Q (o :: rest) a w := by
  obtain ⟨hz0, _⟩ := zero_of_info hz
  refine wpList_plain hg fun K hK => ?_
  unfold Oper.wp execOp
  simp only [ho, Instr.alloc, Sem.run_bind, hz0, newVar, newRow, run_newObj_alloc, Sem.run_pure, Result.andThen_ok, Value.cells]
  exact hK _ _ (h _ (New.mk' w Z t))

theorem load_letter (hg : o.guard = none) (t t' : TypeId) (x : Operand) (ho : o.op = .load t x) (g : Nat) (hx : a.eval x = .pointer (some ⟨g, 0, none⟩)) (cs : Array Value) (d : TypeDesc) (hr : w.heap[g]? = some (.cells cs t'))
    (hu : P.underlying t = some d) (hd : (match d with | .struct _ | .array _ _ => true | _ => false) = true) (hi : (P.info? t).map (·.size) = some cs.size)
    (h : wpList P ops Q rest (a.put o.dst (.agg cs)) w) : wpList P ops Q (o :: rest) a w :=
  wpList_load_row hg t x ho g hx t' cs (0, 0) d hr hu hd hi h
end

theorem size5 (w : World) : (sizeOf 5).run Try.prog w = .ok 1 w := by kernel_rfl
theorem equal_run (xs ys : List UInt8) (hx : xs.length = 32) (hy : ys.length = 32) (w : World) : (Op.equalIn 10000 23 (.agg (A xs)) (.agg (A ys))).run Try.prog w = .ok (xs == ys) w :=
  run_equalIn_bytes w 9998 23 5 32 Try.underlying23 Try.underlying5 size5 xs ys hx hy

theorem xr_xr (xs ys : List UInt8) (h : xs.length = ys.length) : xr (xr xs ys) ys = xs := by
  induction xs generalizing ys with
  | nil => rfl
  | cons x xs ih =>
    cases ys with
    | nil => cases h
    | cons y ys =>
      have := ih ys (by simpa using h)
      simp only [xr, List.zipWith_cons_cons] at this ⊢
      rw [this, UInt8.xor_assoc, UInt8.xor_self, UInt8.xor_zero]
theorem xr_comm (xs ys : List UInt8) : xr xs ys = xr ys xs := by
  induction xs generalizing ys with
  | nil => cases ys <;> rfl
  | cons x xs ih =>
    cases ys with
    | nil => rfl
    | cons y ys =>
      have := ih ys
      simp only [xr, List.zipWith_cons_cons] at this ⊢
      rw [this, UInt8.xor_comm]
theorem xr_self (xs : List UInt8) : xr xs xs = List.replicate xs.length 0 := by
  induction xs with
  | nil => rfl
  | cons x xs ih =>
    simp only [xr, List.zipWith_cons_cons, List.length_cons, List.replicate_succ] at ih ⊢
    rw [ih, UInt8.xor_self]

theorem zero23 : (Try.prog.info? 23).map (fun i => (i.zero, i.size)) = some (some (.agg (A (List.replicate 32 0))), 32) := by kernel_rfl
theorem info22 : (Try.prog.info? 22).map (·.size) = some 32 := by kernel_rfl

end Go.Proofs.Qxb6619661a.Ks
