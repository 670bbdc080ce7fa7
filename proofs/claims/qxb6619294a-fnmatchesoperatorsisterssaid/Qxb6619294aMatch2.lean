/-
  FnMatchesOperatorSisters: (*labelSelector).matches (24) at the selector of one label and at the empty one.
-/
import Derived.Test.Qxb6619294aMatch
namespace Go.Proofs.Qxb6619294a.Sel
open Go.ChangeShapes Go.WideShapes Go.ChangeAt Go.RowKit Go.Maps

theorem keyOf_str_inv {key : Value} {kl : Lit} (h : keyOf Try.prog 9 key = some kl) : ∃ x : ByteArray, key = .string x ∧ kl = .string x.data.toList ∧ x.size ≤ maxLen := by
  have h0 := h
  cases key <;> simp [keyOf, Try.underlying9, mapKey] at h
  exact ⟨_, rfl, h.2.symm, h.1⟩

set_option maxHeartbeats 400000 in
theorem matches_empty (sb B : Nat) (w : World) (hsb : sb < w.heap.size)
    (c0 : w.cell? ⟨sb, 0, none⟩ = some (.map none)) (c1 : w.cell? ⟨sb, 1, none⟩ = some (.slice none 0 0)) :
    Calls Try.prog 24 #[.pointer (some ⟨sb, 0, none⟩), .map (some B)] w fun e w' => e = .returned (.bool true) ∧ Below w.heap.size w w' := by
  have hrg := run_range_nilMap (P := Try.prog) w 26 9 9 Try.underlying26
  have hnx : ∀ ty, (Instr.next (.pointer (some ⟨w.heap.size, 0, none⟩)) false ty).run Try.prog (w.alloc (.mapIter none 0 #[] 0)) = _ := fun ty => run_next_nilMap w ty 0 0 #[]
  go_enter Try.func24, Try.ntmps24
  go_wp2
  refine wp_loop_rounds 1 ?_
  rw [rounds_succ]
  go_wp2
  refine wp_loop_rounds 1 ?_
  rw [rounds_succ]
  go_wp2
  go_ret
  exact ⟨rfl, (Below.refl _ _).alloc (Nat.le_refl _) _⟩

/-- the range's step, string keys, string elements -/
theorem next_ss (w : World) {ops : Array Oper} {rest : List Oper} {o : Oper} {a : Act} {Q : Exit → Act → World → Prop}
    (hg : o.guard = none) (it : Operand) (hop : o.op = Op.next it false)
    (b r n : Nat) (D : DataW Unit) (left : Lit → Bool) (cnt : Nat) (hit : a.eval it = .pointer (some ⟨r, 0, none⟩)) (h : w.ranges Try.prog 9 (plainElem Try.prog 9) b r n D left cnt)
    (hDone : (∀ kl, left kl = false) → wpList Try.prog ops Q rest (a.put o.dst (.tuple #[.bool false])) w)
    (hMore : ∀ (x c : ByteArray) (w' : World) (cnt' : Nat), x.size ≤ maxLen → (∀ zd, D.atKey (.string x.data.toList) zd = .lit (.string c.data.toList)) → w'.ranges Try.prog 9 (plainElem Try.prog 9) b r n D (fun z => left z && !z.sameKey (.string x.data.toList)) cnt' → cnt' < cnt →
      w.grownBy w' (some r) → w'.heap.size = w.heap.size → (Instr.entry (.pointer (some ⟨r, 0, none⟩))).run Try.prog w' = .ok (.tuple #[.string x, .string c]) w' → wpList Try.prog ops Q rest (a.put o.dst (.tuple #[.bool true, .string x, .string c])) w') :
    wpList Try.prog ops Q (o :: rest) a w :=
  wpList_next_ranges w hg it hop 9 law9 (plainElem Try.prog 9) Value.string Value.string (fun key kl hkey => by obtain ⟨x, rfl, _⟩ := keyOf_str_inv hkey; exact ⟨x, rfl⟩) (fun v y hv => by obtain ⟨c, rfl, _⟩ := plainElem_string_inv Try.underlying9 hv; exact ⟨c, rfl⟩)
    b r n D left cnt hit h (fun _ hl => hDone hl) (fun x c kl y w' cnt' hkey hlk hv hat hrg hlt hgr hsz hen => by
      obtain ⟨x', ex, rfl, hwx⟩ := keyOf_str_inv hkey
      cases ex
      obtain ⟨c', ec, rfl, hwc⟩ := plainElem_string_inv Try.underlying9 hv
      cases ec
      exact hMore x c w' cnt' hwx hat hrg hlt hgr hsz hen)

/-- the map of the one pair (key, v) -/
def one (key v : ByteArray) (l : List UInt8) : Option ByteArray := if key.toList == l then some v else none

theorem one_at {D : DataW Unit} {key v x c : ByteArray} (h : Reads D (one key v)) (hat : ∀ zd, D.atKey (.string x.data.toList) zd = .lit (.string c.data.toList)) : x = key ∧ c = v := by
  obtain ⟨_, hR⟩ := h
  obtain ⟨h1, h2⟩ := hR x.data.toList
  rw [has_true_of_atKey hat] at h1
  have e : (key.toList == x.data.toList) = true := by
    unfold one at h1
    by_cases e : (key.toList == x.data.toList) = true
    · exact e
    · rw [if_neg e] at h1; cases h1
  have ev : one key v x.data.toList = some v := by unfold one; rw [if_pos e]
  have h3 := h2 v ev (DataW.lit (Lit.bool true))
  rw [hat] at h3
  rw [ByteArray.toList_eq] at e
  refine ⟨(bytes_inj (by simpa using e)).symm, bytes_inj (by simpa using h3)⟩

theorem same_key (x : List UInt8) : (Lit.string x).sameKey (Lit.string x) = true := by
  simp [Lit.sameKey]

set_option maxHeartbeats 1000000 in
theorem matches_label (sb mb n B : Nat) (D : DataW Unit) (key v : ByteArray) (C : Bool) (L : List UInt8 → Option ByteArray) (w : World) (hlab : Labels w B L) (hx : key.size ≤ maxLen) (hsb : sb < w.heap.size)
    (hown : w.ownsMap Try.prog 9 (plainElem (H := Unit) Try.prog 9) mb n D) (hD : Reads D (one key v)) (hC : (fnd (L key.toList) && ((hav (L key.toList)).toList == v.toList)) = C)
    (c0 : w.cell? ⟨sb, 0, none⟩ = some (.map (some mb))) (c1 : w.cell? ⟨sb, 1, none⟩ = some (.slice none 0 0)) :
    Calls Try.prog 24 #[.pointer (some ⟨sb, 0, none⟩), .map (some B)] w fun e w' => e = .returned (.bool C) ∧ Below w.heap.size w w' := by
  have HLab : Hid (Labels w B L) := hlab
  have HD : Hid (Reads D (one key v)) := hD
  have C1 : Hid (w.cell? ⟨sb, 1, none⟩ = some (.slice none 0 0)) := c1
  have HC0 : Hid ((fnd (L key.toList) && ((hav (L key.toList)).toList == v.toList)) = C) := hC
  clear hlab hD c1 hC
  go_enter Try.func24, Try.ntmps24
  go_wp2_with (at_range; refine wpList_range_own _ rfl _ 26 rfl 9 9 law9 Try.underlying26 _ mb n D rfl hown ?_; intro w0 hrg0 hg0 hs0)
  go_frame
  have hb0 : Below w.heap.size w w0 := (Below.refl _ _).grown hg0 (Nat.le_refl _) (fun j hj => by cases hj)
  have hl0 : Maps.has D (.string key.data.toList) = false → C = true := by
    intro h
    have e := (HD.out.2 key.data.toList).1
    rw [h] at e
    unfold one at e
    rw [ByteArray.toList_eq] at e
    simp at e
  clear hown c0 hg0 hs0
  go_loopw [5] (fun _ wr => ∃ (left : Lit → Bool) (cnt : Nat), wr.ranges Try.prog 9 (plainElem Try.prog 9) mb w.heap.size n D left cnt ∧ (left (.string key.data.toList) = false → C = true) ∧ Below w.heap.size w wr)
    (fun _ wr => wr.rangeLeft mb w.heap.size)
  case atStart => exact ⟨_, _, hrg0, hl0, hb0⟩
  case round =>
    obtain ⟨left, cnt, hrg, hlf, hbw⟩ := hrel
    go_wp2_with (at_next; refine next_ss _ rfl _ rfl mb w.heap.size n D left cnt rfl hrg ?_ ?_)
    · intro hl
      have HC : Hid (C = true) := hlf (hl _)
      have c1' := (hbw.cell (p := ⟨sb, 1, none⟩) hsb).trans C1.out
      clear hlf hrg hrg0 hb0 hl0 hl
      go_wp2
      refine wp_loop_rounds 1 ?_
      rw [rounds_succ]
      go_wp2
      go_ret
      exact ⟨ret_bool HC.out.symm, hbw⟩
    · intro x c w1 cnt1 hwx hat hrg1 hlt hg1 hs1 hen
      obtain ⟨ex, ec⟩ := one_at HD.out hat
      subst ex
      subst ec
      have hbw1 : Below w.heap.size w w1 := hbw.grown hg1 hbw.size (fun j hj => by cases hj; exact Nat.le_refl _)
      have hlk := (HLab.out.below hbw1).look x hx
      have HM : Hid (w1.rangeLeft mb w.heap.size < wr.rangeLeft mb w.heap.size) := by
        show w1.rangeLeft mb w.heap.size < wr.rangeLeft mb w.heap.size
        rw [hrg1.left_eq, hrg.left_eq]; exact hlt
      have HR1 : Hid (w1.ranges Try.prog 9 (plainElem Try.prog 9) mb w.heap.size n D (fun z => left z && !z.sameKey (.string x.data.toList)) cnt1) := hrg1
      have HB1 : Hid (Below w.heap.size w w1) := hbw1
      clear hlf hrg hrg0 hb0 hl0 hrg1 hlt hg1 hs1 hat hbw hbw1
      generalize hav (L x.toList) = hv at *
      generalize fnd (L x.toList) = F at *
      cases F
      · go_wp2
        go_ret
        exact ⟨ret_bool (by rw [← HC0.out]; rfl), HB1.out⟩
      · by_cases he : (hv.toList == c.toList) = true
        · have HC : Hid (C = true) := by
            show C = true
            rw [← HC0.out, he]; rfl
          go_wp2
          go_roundw
          case rel => exact ⟨_, cnt1, HR1.out, fun _ => HC.out, HB1.out⟩
          case measure => exact HM.out
        · have he' : (hv.toList == c.toList) = false := by simpa using he
          have HC : Hid (C = false) := by
            show C = false
            rw [← HC0.out, he']; rfl
          clear he
          go_wp2
          go_ret
          exact ⟨ret_bool HC.out.symm, HB1.out⟩

theorem zzmatches_of (p m : Value) (r : Bool) (w : World) (h : Calls Try.prog 24 #[p, m] w fun e w' => e = .returned (.bool r) ∧ Below w.heap.size w w') :
    Calls Try.prog 11 #[p, m] w fun e w' => e = .returned (.bool r) ∧ Below w.heap.size w w' := by
  go_enter Try.func11, Try.ntmps11
  go_wp2_with (go_at_call 24; refine h.mono ?_; rintro e w' ⟨rfl, hb⟩)
  go_ret
  exact ⟨rfl, hb⟩

end Go.Proofs.Qxb6619294a.Sel
