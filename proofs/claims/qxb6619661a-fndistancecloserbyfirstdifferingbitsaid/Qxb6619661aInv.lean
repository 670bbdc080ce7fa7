/-
  FnDistanceInverseSymmetricSelfZero (3): the walk.
-/
import Derived.Test.Qxb6619661aLaws
namespace Go.Proofs.Qxb6619661a.Ks
open Go.ChangeShapes Go.WideShapes Go.ChangeAt Go.RowKit
open Extern.Stop (cell)
set_option linter.unusedSimpArgs false

theorem info22A (zs : List UInt8) (h : zs.length = 32) : (Try.prog.info? 22).map (·.size) = some (A zs).size := by rw [A_size, h]; exact info22

theorem range_of {W : World} {g : Nat} {cs : Array Value} {t : TypeId} (h : W.heap[g]? = some (.cells cs t)) : W.rangeAt g 0 cs.toList := by
  intro j v hv
  rw [Nat.zero_add, cell_of_row W g j cs t (0, 0) h]
  simpa using hv
theorem below_six {w w1 w2 w3 w4 w5 w6 : World} {a b c d f : Array Value} {t1 t2 t3 t4 t6 : TypeId} (n1 : New w w1 a t1) (n2 : New w1 w2 b t2) (n3 : New w2 w3 c t3) (n4 : New w3 w4 d t4) (hb : Below w4.heap.size w4 w5) (n6 : New w5 w6 f t6) : Below w.heap.size w w6 := by
  have h1 := n1.lt
  have h2 := n2.lt
  have h3 := n3.lt
  have h4 := n4.lt
  have h5 := hb.size
  exact ((((n1.below.trans (n2.below.mono (by omega))).trans (n3.below.mono (by omega))).trans (n4.below.mono (by omega))).trans (hb.mono (by omega))).trans (n6.below.mono (by omega))

/-- the three keys lie where they lie; what was there before the call is as it was -/
structure Three (w : World) (gx gy gz : Nat) (xs ys zs : List UInt8) (W : World) : Prop where
  x : W.heap[gx]? = some (.cells (A xs) 23)
  y : W.heap[gy]? = some (.cells (A ys) 23)
  z : W.heap[gz]? = some (.cells (A zs) 23)
  below : Below w.heap.size w W

theorem Three.call {w : World} {gx gy gz : Nat} {xs ys zs : List UInt8} {W W' : World} (h : Three w gx gy gz xs ys zs W) (hb : Below W.heap.size W W') : Three w gx gy gz xs ys zs W' :=
  ⟨below_old hb h.x, below_old hb h.y, below_old hb h.z, h.below.trans (hb.mono h.below.size)⟩
theorem Three.drew {w : World} {gx gy gz : Nat} {xs ys zs : List UInt8} {W : World} (h : Three w gx gy gz xs ys zs W) : Three w gx gy gz xs ys zs W.drew :=
  ⟨h.x, h.y, h.z, h.below.drew⟩

theorem yields_row {P : Program} {ops : Array Oper} {S : World → Prop} {op : Oper} {a : Act} (hw : Region.wanted op (yielded ops a.tmps) = true) (ty : TypeId) (x : Operand) (ho : op.op = .load ty x)
    (g : Nat) (hx : a.eval x = .pointer (some ⟨g, 0, none⟩)) (t : TypeId) (cs : Array Value) (d : TypeDesc) (hS : ∀ w, S w → w.heap[g]? = some (.cells cs t))
    (hu : P.underlying ty = some d) (hd : (match d with | .struct _ | .array _ _ => true | _ => false) = true) (hi : (P.info? ty).map (·.size) = some cs.size) : YieldsIf P ops S op (.agg cs) a :=
  .inl ⟨hw, fun w hw' => by
    unfold execOp
    simp only [ho, hx, Instr.loadAt, Instr.sureAddr, Sem.run_bind, Sem.run_pure, Result.andThen_ok, run_loadVar_row w g t ty cs (0, 0) d (hS w hw') hu hd hi]⟩

theorem xr_back (xs ys : List UInt8) (h : xs.length = ys.length) : xr (xr xs ys) xs = ys := by
  rw [xr_comm xs ys]; exact xr_xr ys xs h.symm
def zro : List UInt8 := List.replicate 32 0
theorem zro_len : zro.length = 32 := rfl
theorem xr_self32 (xs : List UInt8) (h : xs.length = 32) : xr xs xs = zro := by rw [xr_self, h]; rfl

set_option maxHeartbeats 1000000 in
theorem inv_walk (xs ys : List UInt8) (lx : xs.length = 32) (ly : ys.length = 32) (w : World) :
    Calls Try.prog 3 #[.agg (A xs), .agg (A ys)] w fun e w' => e = .returned (.bool true) ∧ Below w.heap.size w w' := by
  have i22x := info22A xs lx
  have i22y := info22A ys ly
  have i23x := info23A xs lx
  have i23y := info23A ys ly
  have lz := xr_len xs ys lx ly
  have i23z := info23A (xr xs ys) lz
  have i23o := info23A zro zro_len
  go_enter Try.func3, Try.ntmps3
  go_wp2_with (first
    | (refine box_letter rfl 22 _ rfl (A xs) rfl ?_; intro w1 n1)
    | (refine box_letter rfl 22 _ rfl (A ys) rfl ?_; intro w2 n2; have x22 := n2.old n1.row; have y22 := n2.row)
    | (refine load_letter rfl 22 22 _ rfl _ rfl (A xs) _ x22 Try.underlying22 rfl i22x ?_)
    | (refine var_letter rfl rfl 23 rfl _ _ rfl _ (A xs) 32 zero23 (by rw [A_size]; rfl) (by rw [A_size]; exact lx) (A_all xs) rfl rfl ?_; intro w3 n3; have y22' := n3.old y22)
    | (refine load_letter rfl 22 22 _ rfl _ rfl (A ys) _ y22' Try.underlying22 rfl i22y ?_)
    | (refine var_letter rfl rfl 23 rfl _ _ rfl _ (A ys) 32 zero23 (by rw [A_size]; rfl) (by rw [A_size]; exact ly) (A_all ys) rfl rfl ?_; intro w4 n4; have x23 := n4.old n3.row; have y23 := n4.row)
    | (refine load_letter rfl 23 23 _ rfl _ rfl (A xs) _ x23 Try.underlying23 rfl i23x ?_)
    | (refine load_letter rfl 23 23 _ rfl _ rfl (A ys) _ y23 Try.underlying23 rfl i23y ?_)
    | (go_at_call 5; refine (dist_any xs ys lx ly w4).mono ?_; rintro e w5 ⟨rfl, hb5⟩; have x23' := below_old hb5 x23; have y23' := below_old hb5 y23)
    | (refine var_letter rfl rfl 23 rfl _ _ rfl _ (A (xr xs ys)) 32 zero23 (by rw [A_size]; rfl) (by rw [A_size]; exact lz) (A_all _) rfl rfl ?_; intro w6 n6; have x23'' := n6.old x23'; have y23'' := n6.old y23'; have z23'' := n6.row))
  try simp only [Act.put, List.setIfInBounds_toArray, List.set_cons_succ, List.set_cons_zero]
  have H6 : Hid (Three w w2.heap.size w3.heap.size w5.heap.size xs ys (xr xs ys) w6) := ⟨x23'', y23'', z23'', below_six n1 n2 n3 n4 hb5 n6⟩
  clear n1 n2 n3 n4 n6 hb5 x22 y22 y22' x23 y23 x23' y23' x23'' y23'' z23'' i22x i22y
  refine wp_region_held_drew (S := Three w w2.heap.size w3.heap.size w5.heap.size xs ys (xr xs ys)) (by kernel_rfl) H6.out.drew (fun hHeld => ?_)
  refine wpAnyH_take (i := 0) rfl (by kernel_rfl) (by kernel_rfl) (by kernel_rfl) (fun _ _ _ h => h) (yields_row (by rfl) 23 _ rfl _ rfl 23 (A (xr xs ys)) _ (fun W h => h.z) Try.underlying23 rfl i23z) hHeld ?_
  refine wpAnyH_take (i := 1) rfl (by kernel_rfl) (by kernel_rfl) (by kernel_rfl) (fun _ _ _ h => h) (yields_row (by rfl) 23 _ rfl _ rfl 23 (A ys) _ (fun W h => h.y) Try.underlying23 rfl i23y) hHeld ?_
  refine wpAnyH_take (i := 3) rfl (by kernel_rfl) (by kernel_rfl) (by kernel_rfl) (fun _ _ _ h => h) (yields_row (by rfl) 23 _ rfl _ rfl 23 (A xs) _ (fun W h => h.x) Try.underlying23 rfl i23x) hHeld ?_
  try simp only [List.getElem_toArray, List.getElem_cons_zero, List.getElem_cons_succ, Act.put, List.setIfInBounds_toArray, List.set_cons_zero, List.set_cons_succ]
  refine wpAnyH_ready (rs := [2]) (by kernel_rfl) (by simp) ?_
  refine AllReadyH.cons rfl (fun K hK => ?_) AllReadyH.nil
  go_simp
  refine (dist_any (xr xs ys) ys lz ly _).mono ?_
  rintro e w7 ⟨rfl, hb⟩
  refine hK.out _ _ (hHeld.call hb) (fun hHeld' => ?_)
  rw [xr_xr xs ys (lx.trans ly.symm)]
  try simp only [List.getElem_toArray, List.getElem_cons_zero, List.getElem_cons_succ, Act.put, List.setIfInBounds_toArray, List.set_cons_zero, List.set_cons_succ]
  refine wpAnyH_take (i := 4) (v := .bool false) rfl (by kernel_rfl) (by kernel_rfl) (by kernel_rfl) (fun _ _ _ h => h) (Or.inl ⟨by rfl, fun W _ => ?_⟩) hHeld' ?_
  · have eqx := equal_run xs xs lx lx W
    rw [beq_self_eq_true] at eqx
    clear hHeld hHeld' hb hK
    go_simp
  refine wpAnyH_done (by kernel_rfl) ?_ _
  try simp only [List.getElem_toArray, List.getElem_cons_zero, List.getElem_cons_succ, Act.put, List.setIfInBounds_toArray, List.set_cons_zero, List.set_cons_succ]
  clear hb hHeld hK H6
  have H7 : Hid (Three w w2.heap.size w3.heap.size w5.heap.size xs ys (xr xs ys) w7) := hHeld'
  clear hHeld'
  go_wp2_with fail
  try simp only [List.getElem_toArray, List.getElem_cons_zero, List.getElem_cons_succ, Act.put, List.setIfInBounds_toArray, List.set_cons_zero, List.set_cons_succ]
  refine wp_region_held_drew (S := Three w w2.heap.size w3.heap.size w5.heap.size xs ys (xr xs ys)) (by kernel_rfl) H7.out.drew (fun hHeld => ?_)
  refine wpAnyH_take (i := 0) rfl (by kernel_rfl) (by kernel_rfl) (by kernel_rfl) (fun _ _ _ h => h) (yields_row (by rfl) 23 _ rfl _ rfl 23 (A (xr xs ys)) _ (fun W h => h.z) Try.underlying23 rfl i23z) hHeld ?_
  refine wpAnyH_take (i := 1) rfl (by kernel_rfl) (by kernel_rfl) (by kernel_rfl) (fun _ _ _ h => h) (yields_row (by rfl) 23 _ rfl _ rfl 23 (A xs) _ (fun W h => h.x) Try.underlying23 rfl i23x) hHeld ?_
  refine wpAnyH_take (i := 3) rfl (by kernel_rfl) (by kernel_rfl) (by kernel_rfl) (fun _ _ _ h => h) (yields_row (by rfl) 23 _ rfl _ rfl 23 (A ys) _ (fun W h => h.y) Try.underlying23 rfl i23y) hHeld ?_
  try simp only [List.getElem_toArray, List.getElem_cons_zero, List.getElem_cons_succ, Act.put, List.setIfInBounds_toArray, List.set_cons_zero, List.set_cons_succ]
  refine wpAnyH_ready (rs := [2]) (by kernel_rfl) (by simp) ?_
  refine AllReadyH.cons rfl (fun K hK => ?_) AllReadyH.nil
  go_simp
  refine (dist_any (xr xs ys) xs lz lx _).mono ?_
  rintro e w8 ⟨rfl, hb⟩
  refine hK.out _ _ (hHeld.call hb) (fun hHeld' => ?_)
  rw [xr_back xs ys (lx.trans ly.symm)]
  try simp only [List.getElem_toArray, List.getElem_cons_zero, List.getElem_cons_succ, Act.put, List.setIfInBounds_toArray, List.set_cons_zero, List.set_cons_succ]
  refine wpAnyH_take (i := 4) (v := .bool false) rfl (by kernel_rfl) (by kernel_rfl) (by kernel_rfl) (fun _ _ _ h => h) (Or.inl ⟨by rfl, fun W _ => ?_⟩) hHeld' ?_
  · have eqx := equal_run ys ys ly ly W
    rw [beq_self_eq_true] at eqx
    clear hHeld hHeld' hb hK
    go_simp
  refine wpAnyH_done (by kernel_rfl) ?_ _
  try simp only [List.getElem_toArray, List.getElem_cons_zero, List.getElem_cons_succ, Act.put, List.setIfInBounds_toArray, List.set_cons_zero, List.set_cons_succ]
  clear hb hHeld hK H7
  have H8 : Hid (Three w w2.heap.size w3.heap.size w5.heap.size xs ys (xr xs ys) w8) := hHeld'
  clear hHeld'
  go_wp2_with fail
  try simp only [List.getElem_toArray, List.getElem_cons_zero, List.getElem_cons_succ, Act.put, List.setIfInBounds_toArray, List.set_cons_zero, List.set_cons_succ]
  refine wp_region_held_drew (S := Three w w2.heap.size w3.heap.size w5.heap.size xs ys (xr xs ys)) (by kernel_rfl) H8.out.drew (fun hHeld => ?_)
  refine wpAnyH_take (i := 0) rfl (by kernel_rfl) (by kernel_rfl) (by kernel_rfl) (fun _ _ _ h => h) (yields_row (by rfl) 23 _ rfl _ rfl 23 (A ys) _ (fun W h => h.y) Try.underlying23 rfl i23y) hHeld ?_
  refine wpAnyH_take (i := 1) rfl (by kernel_rfl) (by kernel_rfl) (by kernel_rfl) (fun _ _ _ h => h) (yields_row (by rfl) 23 _ rfl _ rfl 23 (A xs) _ (fun W h => h.x) Try.underlying23 rfl i23x) hHeld ?_
  refine wpAnyH_take (i := 3) rfl (by kernel_rfl) (by kernel_rfl) (by kernel_rfl) (fun _ _ _ h => h) (yields_row (by rfl) 23 _ rfl _ rfl 23 (A (xr xs ys)) _ (fun W h => h.z) Try.underlying23 rfl i23z) hHeld ?_
  try simp only [List.getElem_toArray, List.getElem_cons_zero, List.getElem_cons_succ, Act.put, List.setIfInBounds_toArray, List.set_cons_zero, List.set_cons_succ]
  refine wpAnyH_ready (rs := [2]) (by kernel_rfl) (by simp) ?_
  refine AllReadyH.cons rfl (fun K hK => ?_) AllReadyH.nil
  go_simp
  refine (dist_any ys xs ly lx _).mono ?_
  rintro e w9 ⟨rfl, hb⟩
  refine hK.out _ _ (hHeld.call hb) (fun hHeld' => ?_)
  rw [xr_comm ys xs]
  try simp only [List.getElem_toArray, List.getElem_cons_zero, List.getElem_cons_succ, Act.put, List.setIfInBounds_toArray, List.set_cons_zero, List.set_cons_succ]
  refine wpAnyH_take (i := 4) (v := .bool false) rfl (by kernel_rfl) (by kernel_rfl) (by kernel_rfl) (fun _ _ _ h => h) (Or.inl ⟨by rfl, fun W _ => ?_⟩) hHeld' ?_
  · have eqx := equal_run (xr xs ys) (xr xs ys) lz lz W
    rw [beq_self_eq_true] at eqx
    clear hHeld hHeld' hb hK
    go_simp
  refine wpAnyH_done (by kernel_rfl) ?_ _
  try simp only [List.getElem_toArray, List.getElem_cons_zero, List.getElem_cons_succ, Act.put, List.setIfInBounds_toArray, List.set_cons_zero, List.set_cons_succ]
  clear hb hHeld hK H8
  have H9 : Hid (Three w w2.heap.size w3.heap.size w5.heap.size xs ys (xr xs ys) w9) := hHeld'
  clear hHeld'
  go_wp2_with (refine alloc_letter rfl 23 rfl (A zro) 32 zero23 ?_; intro w10 n10)
  try simp only [List.getElem_toArray, List.getElem_cons_zero, List.getElem_cons_succ, Act.put, List.setIfInBounds_toArray, List.set_cons_zero, List.set_cons_succ]
  have H10 : Hid (Three w w2.heap.size w3.heap.size w9.heap.size xs ys zro w10) := ⟨n10.old H9.out.x, n10.old H9.out.y, n10.row, H9.out.below.trans (n10.below.mono H9.out.below.size)⟩
  clear H9 n10
  refine wp_region_held_drew (S := Three w w2.heap.size w3.heap.size w9.heap.size xs ys zro) (by kernel_rfl) H10.out.drew (fun hHeld => ?_)
  refine wpAnyH_take (i := 0) rfl (by kernel_rfl) (by kernel_rfl) (by kernel_rfl) (fun _ _ _ h => h) (yields_row (by rfl) 23 _ rfl _ rfl 23 (A xs) _ (fun W h => h.x) Try.underlying23 rfl i23x) hHeld ?_
  refine wpAnyH_take (i := 1) rfl (by kernel_rfl) (by kernel_rfl) (by kernel_rfl) (fun _ _ _ h => h) (yields_row (by rfl) 23 _ rfl _ rfl 23 (A xs) _ (fun W h => h.x) Try.underlying23 rfl i23x) hHeld ?_
  refine wpAnyH_take (i := 3) rfl (by kernel_rfl) (by kernel_rfl) (by kernel_rfl) (fun _ _ _ h => h) (yields_row (by rfl) 23 _ rfl _ rfl 23 (A zro) _ (fun W h => h.z) Try.underlying23 rfl i23o) hHeld ?_
  try simp only [List.getElem_toArray, List.getElem_cons_zero, List.getElem_cons_succ, Act.put, List.setIfInBounds_toArray, List.set_cons_zero, List.set_cons_succ]
  refine wpAnyH_ready (rs := [2]) (by kernel_rfl) (by simp) ?_
  refine AllReadyH.cons rfl (fun K hK => ?_) AllReadyH.nil
  go_simp
  refine (dist_any xs xs lx lx _).mono ?_
  rintro e w11 ⟨rfl, hb⟩
  refine hK.out _ _ (hHeld.call hb) (fun hHeld' => ?_)
  rw [xr_self32 xs lx]
  try simp only [List.getElem_toArray, List.getElem_cons_zero, List.getElem_cons_succ, Act.put, List.setIfInBounds_toArray, List.set_cons_zero, List.set_cons_succ]
  refine wpAnyH_take (i := 4) (v := .bool false) rfl (by kernel_rfl) (by kernel_rfl) (by kernel_rfl) (fun _ _ _ h => h) (Or.inl ⟨by rfl, fun W _ => ?_⟩) hHeld' ?_
  · have eqx := equal_run zro zro zro_len zro_len W
    rw [beq_self_eq_true] at eqx
    clear hHeld hHeld' hb hK
    go_simp
  refine wpAnyH_done (by kernel_rfl) ?_ _
  try simp only [List.getElem_toArray, List.getElem_cons_zero, List.getElem_cons_succ, Act.put, List.setIfInBounds_toArray, List.set_cons_zero, List.set_cons_succ]
  clear hb hHeld hK H10
  have H11 : Hid (Three w w2.heap.size w3.heap.size w9.heap.size xs ys zro w11) := hHeld'
  clear hHeld'
  go_wp2_with fail
  go_ret
  exact ⟨rfl, H11.out.below⟩

end Go.Proofs.Qxb6619661a.Ks
