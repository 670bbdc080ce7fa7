/-
  FnDistanceCloserByFirstDifferingBit (4): the walk.
-/
import Derived.Test.Qxb6619661aClos
import Derived.Test.Qxb6619661aInv
namespace Go.Proofs.Qxb6619661a.Ks
open Go.ChangeShapes Go.WideShapes Go.ChangeAt Go.RowKit
open Extern.Stop (cell)
set_option linter.unusedSimpArgs false

/-- five rows lie where they lie; what was there before the call is as it was -/
structure Five (w : World) (gt gp gq gx gy : Nat) (ts ps qs xs ys : List UInt8) (W : World) : Prop where
  t : W.heap[gt]? = some (.cells (A ts) 22)
  p : W.heap[gp]? = some (.cells (A ps) 22)
  q : W.heap[gq]? = some (.cells (A qs) 22)
  x : W.heap[gx]? = some (.cells (A xs) 23)
  y : W.heap[gy]? = some (.cells (A ys) 23)
  below : Below w.heap.size w W

theorem Five.call {w : World} {gt gp gq gx gy : Nat} {ts ps qs xs ys : List UInt8} {W W' : World} (h : Five w gt gp gq gx gy ts ps qs xs ys W) (hb : Below W.heap.size W W') : Five w gt gp gq gx gy ts ps qs xs ys W' :=
  ⟨below_old hb h.t, below_old hb h.p, below_old hb h.q, below_old hb h.x, below_old hb h.y, h.below.trans (hb.mono h.below.size)⟩
theorem Five.drew {w : World} {gt gp gq gx gy : Nat} {ts ps qs xs ys : List UInt8} {W : World} (h : Five w gt gp gq gx gy ts ps qs xs ys W) : Five w gt gp gq gx gy ts ps qs xs ys W.drew :=
  ⟨h.t, h.p, h.q, h.x, h.y, h.below.drew⟩

theorem Tri.new {w : World} {gt gp gq : Nat} {ts ps qs : List UInt8} {W W' : World} {cs : Array Value} {ty : TypeId} (h : Tri w gt gp gq ts ps qs W) (n : New W W' cs ty) : Tri w gt gp gq ts ps qs W' :=
  ⟨n.old h.t, n.old h.p, n.old h.q, h.below.trans (n.below.mono h.below.size)⟩
theorem Tri.call {w : World} {gt gp gq : Nat} {ts ps qs : List UInt8} {W W' : World} (h : Tri w gt gp gq ts ps qs W) (hb : Below W.heap.size W W') : Tri w gt gp gq ts ps qs W' :=
  ⟨below_old hb h.t, below_old hb h.p, below_old hb h.q, h.below.trans (hb.mono h.below.size)⟩

set_option maxHeartbeats 1000000 in
theorem clo_walk (ts ps qs : List UInt8) (lt : ts.length = 32) (lp : ps.length = 32) (lq : qs.length = 32) (w : World) :
    Calls Try.prog 4 #[.agg (A ts), .agg (A ps), .agg (A qs)] w fun e w' => e = .returned (.bool true) ∧ Below w.heap.size w w' := by
  have i22t := info22A ts lt
  have i22p := info22A ps lp
  have i22q := info22A qs lq
  have lx := xr_len ts ps lt lp
  have ly := xr_len ts qs lt lq
  have i23x := info23A (xr ts ps) lx
  have i23y := info23A (xr ts qs) ly
  go_enter Try.func4, Try.ntmps4
  go_wp2_with (first
    | (refine box_letter rfl 22 _ rfl (A ts) rfl ?_; intro w1 n1)
    | (refine box_letter rfl 22 _ rfl (A ps) rfl ?_; intro w2 n2)
    | (refine box_letter rfl 22 _ rfl (A qs) rfl ?_; intro w3 n3; have T3 : Hid (Tri w w.heap.size w1.heap.size w2.heap.size ts ps qs w3) := ⟨n3.old (n2.old n1.row), n3.old n2.row, n3.row, (n1.below.trans (n2.below.mono (Nat.le_of_lt n1.lt))).trans (n3.below.mono (Nat.le_of_lt (Nat.lt_trans n1.lt n2.lt)))⟩; clear n1 n2 n3)
    | (refine load_letter rfl 22 22 _ rfl _ rfl (A ts) _ T3.out.t Try.underlying22 rfl i22t ?_)
    | (refine load_letter rfl 22 22 _ rfl _ rfl (A ps) _ T3.out.p Try.underlying22 rfl i22p ?_)
    | (go_at_call 5; have hg := T3; clear hg; refine (dist_any ts ps lt lp w3).mono ?_; rintro e w4 ⟨rfl, hb4⟩; have T4 : Hid (Tri w w.heap.size w1.heap.size w2.heap.size ts ps qs w4) := T3.out.call hb4; clear hb4 T3)
    | (have hg := T4; clear hg; refine var_letter rfl rfl 23 rfl _ _ rfl _ (A (xr ts ps)) 32 zero23 (by rw [A_size]; rfl) (by rw [A_size]; exact lx) (A_all _) rfl rfl ?_; intro w5 n5; have T5 : Hid (Tri w w.heap.size w1.heap.size w2.heap.size ts ps qs w5) := T4.out.new n5; have X5 : Hid (w5.heap[w4.heap.size]? = some (.cells (A (xr ts ps)) 23)) := n5.row; clear n5 T4)
    | (refine load_letter rfl 22 22 _ rfl _ rfl (A ts) _ T5.out.t Try.underlying22 rfl i22t ?_)
    | (refine load_letter rfl 22 22 _ rfl _ rfl (A qs) _ T5.out.q Try.underlying22 rfl i22q ?_)
    | (go_at_call 5; have hg := T5; clear hg; refine (dist_any ts qs lt lq w5).mono ?_; rintro e w6 ⟨rfl, hb6⟩; have T6 : Hid (Tri w w.heap.size w1.heap.size w2.heap.size ts ps qs w6) := T5.out.call hb6; have X6 : Hid (w6.heap[w4.heap.size]? = some (.cells (A (xr ts ps)) 23)) := below_old hb6 X5.out; clear hb6 T5 X5)
    | (have hg := T6; clear hg; refine var_letter rfl rfl 23 rfl _ _ rfl _ (A (xr ts qs)) 32 zero23 (by rw [A_size]; rfl) (by rw [A_size]; exact ly) (A_all _) rfl rfl ?_; intro w7 n7))
  try simp only [List.getElem_toArray, List.getElem_cons_zero, List.getElem_cons_succ, Act.put, List.setIfInBounds_toArray, List.set_cons_zero, List.set_cons_succ]
  have F7 : Hid (Five w w.heap.size w1.heap.size w2.heap.size w4.heap.size w6.heap.size ts ps qs (xr ts ps) (xr ts qs) w7) := ⟨n7.old T6.out.t, n7.old T6.out.p, n7.old T6.out.q, n7.old X6.out, n7.row, T6.out.below.trans (n7.below.mono T6.out.below.size)⟩
  clear n7 T6 X6
  refine wp_region_held_drew (S := Five w w.heap.size w1.heap.size w2.heap.size w4.heap.size w6.heap.size ts ps qs (xr ts ps) (xr ts qs)) (by kernel_rfl) F7.out.drew (fun hHeld => ?_)
  refine wpAnyH_take (i := 0) rfl (by kernel_rfl) (by kernel_rfl) (by kernel_rfl) (fun _ _ _ h => h) (yields_row (by rfl) 23 _ rfl _ rfl 23 (A (xr ts ps)) _ (fun W h => h.x) Try.underlying23 rfl i23x) hHeld ?_
  refine wpAnyH_take (i := 1) rfl (by kernel_rfl) (by kernel_rfl) (by kernel_rfl) (fun _ _ _ h => h) (yields_row (by rfl) 23 _ rfl _ rfl 23 (A (xr ts qs)) _ (fun W h => h.y) Try.underlying23 rfl i23y) hHeld ?_
  refine wpAnyH_take (i := 3) rfl (by kernel_rfl) (by kernel_rfl) (by kernel_rfl) (fun _ _ _ h => h) (yields_row (by rfl) 22 _ rfl _ rfl 22 (A ts) _ (fun W h => h.t) Try.underlying22 rfl i22t) hHeld ?_
  refine wpAnyH_take (i := 4) rfl (by kernel_rfl) (by kernel_rfl) (by kernel_rfl) (fun _ _ _ h => h) (yields_row (by rfl) 22 _ rfl _ rfl 22 (A ps) _ (fun W h => h.p) Try.underlying22 rfl i22p) hHeld ?_
  refine wpAnyH_take (i := 5) rfl (by kernel_rfl) (by kernel_rfl) (by kernel_rfl) (fun _ _ _ h => h) (yields_row (by rfl) 22 _ rfl _ rfl 22 (A qs) _ (fun W h => h.q) Try.underlying22 rfl i22q) hHeld ?_
  simp only [List.getElem_toArray, List.getElem_cons_zero, List.getElem_cons_succ, Act.put, List.setIfInBounds_toArray, List.set_cons_zero, List.set_cons_succ]
  refine wpAnyH_ready (rs := [2]) (by kernel_rfl) (by simp) ?_
  refine AllReadyH.cons rfl (fun K hK => ?_) AllReadyH.nil
  · go_simp
    refine (cmp_any (xr ts ps) (xr ts qs) lx ly _).mono ?_
    rintro e w8 ⟨rfl, hb8⟩
    refine hK.out _ _ (hHeld.call hb8) (fun hHeld8 => ?_)
    try simp only [List.getElem_toArray, List.getElem_cons_zero, List.getElem_cons_succ, Act.put, List.setIfInBounds_toArray, List.set_cons_zero, List.set_cons_succ]
    refine wpAnyH_ready (rs := [6]) (by kernel_rfl) (by simp) ?_
    refine AllReadyH.cons rfl (fun K' hK' => ?_) AllReadyH.nil
    go_simp
    refine (clos_any ts ps qs lt lp lq _).mono ?_
    rintro e w9 ⟨rfl, hb9⟩
    refine hK'.out _ _ (hHeld8.call hb9) (fun hHeld9 => ?_)
    try simp only [List.getElem_toArray, List.getElem_cons_zero, List.getElem_cons_succ, Act.put, List.setIfInBounds_toArray, List.set_cons_zero, List.set_cons_succ]
    refine wpAnyH_take (i := 7) (v := .bool true) rfl (by kernel_rfl) (by kernel_rfl) (by kernel_rfl) (fun _ _ _ h => h) (Or.inl ⟨by rfl, fun W _ => ?_⟩) hHeld9 ?_
    · clear hHeld hHeld8 hHeld9 hb8 hb9 hK hK'
      go_simp
    simp only [List.getElem_toArray, List.getElem_cons_zero, List.getElem_cons_succ, Act.put, List.setIfInBounds_toArray, List.set_cons_zero, List.set_cons_succ]
    refine wpAnyH_take (i := 8) (v := .bool true) rfl (by kernel_rfl) (by kernel_rfl) (by kernel_rfl) (fun _ _ _ h => h) (Or.inl ⟨by rfl, fun W _ => ?_⟩) hHeld9 ?_
    · clear hHeld hHeld8 hHeld9 hb8 hb9 hK hK'
      go_simp
    refine wpAnyH_done (by kernel_rfl) ?_ _
    simp only [List.getElem_toArray, List.getElem_cons_zero, List.getElem_cons_succ, Act.put, List.setIfInBounds_toArray, List.set_cons_zero, List.set_cons_succ]
    have F9 : Hid (Five w w.heap.size w1.heap.size w2.heap.size w4.heap.size w6.heap.size ts ps qs (xr ts ps) (xr ts qs) w9) := hHeld9
    clear hHeld hHeld8 hHeld9 hb8 hb9 hK hK' F7
    go_wp2_with fail
    go_ret
    exact ⟨rfl, F9.out.below⟩

end Go.Proofs.Qxb6619661a.Ks
