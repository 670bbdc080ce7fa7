/-
  FnMatchesOperatorSisters: (*labelSelector).matches (24) and ZZMatches (11), at the selectors that the law lays: one requirement; one label; none.
-/
import Derived.Test.Qxb6619294aBuild
import Derived.Maps.RangeWalk
import Derived.Laws.IdiomRangeMap
namespace Go.Proofs.Qxb6619294a.Sel
open Go.ChangeShapes Go.WideShapes Go.ChangeAt Go.RowKit Go.Maps

/-- the labels' map in block B reads as L -/
def Labels (w : World) (B : Nat) (L : List UInt8 → Option ByteArray) : Prop := ∃ n D, w.ownsMap Try.prog 9 (plainElem (H := Unit) Try.prog 9) B n D ∧ Reads D L

theorem Labels.alloc {w : World} {B : Nat} {L : List UInt8 → Option ByteArray} (h : Labels w B L) (o : Obj) : Labels (w.alloc o) B L := by
  obtain ⟨n, D, h1, h2⟩ := h
  exact ⟨n, D, h1.alloc o, h2⟩
theorem Labels.lt {w : World} {B : Nat} {L : List UInt8 → Option ByteArray} (h : Labels w B L) : B < w.heap.size := by
  obtain ⟨n, D, h1, h2⟩ := h
  exact h1.lt
theorem Labels.below {w w' : World} {B : Nat} {L : List UInt8 → Option ByteArray} (h : Labels w B L) (hb : Below w.heap.size w w') : Labels w' B L := by
  have hlt := h.lt
  obtain ⟨n, D, ⟨es, clock, h1, r⟩, h2⟩ := h
  exact ⟨n, D, ⟨es, clock, (hb.block B hlt).trans h1, r⟩, h2⟩

theorem Labels.look {w : World} {B : Nat} {L : List UInt8 → Option ByteArray} (h : Labels w B L) (x : ByteArray) (hx : x.size ≤ maxLen) :
    (Instr.lookup 26 (.map (some B)) (.string x) true).run Try.prog w = .ok (.tuple #[.string (hav (L x.toList)), .bool (fnd (L x.toList))]) w := by
  obtain ⟨n, D, hown, _, hR⟩ := h
  have hkey : keyOf Try.prog 9 (.string x) = some (.string x.data.toList) := Go.WideMaps.keyOf_string_mk Try.underlying9 hx
  obtain ⟨v, ps, hrun, hv⟩ := hown.look_ok law9 Try.underlying26 (zero9 w) (plainElem_string (H := Unit) Try.underlying9 (s := { data := #[] }) (by unfold maxLen; decide)) hkey
  obtain ⟨s, rfl, hs, _⟩ := plainElem_string_inv Try.underlying9 hv
  rw [hrun, ByteArray.toList_eq]
  obtain ⟨h1, h2⟩ := hR x.data.toList
  rw [h1]
  have es : s = hav (L x.data.toList) := by
    cases hL : L x.data.toList with
    | none =>
      rw [hL] at h1
      have e := atKey_of_not_has h1 (DataW.lit (Lit.string (ByteArray.mk #[]).data.toList))
      have e2 := congrArg Prod.fst hs
      rw [e] at e2
      simp at e2
      exact bytes_inj (by simpa [hav] using e2)
    | some u =>
      have e := h2 u hL (DataW.lit (Lit.string (ByteArray.mk #[]).data.toList))
      have e2 := congrArg Prod.fst hs
      rw [e] at e2
      simp at e2
      exact bytes_inj (by simpa [hav] using e2.symm)
  rw [es]
  rfl

theorem StrSl.alloc {w : World} {a : Option Addr} {len : Nat} {S : Nat → ByteArray} (h : StrSl w a len S) (o : Obj) : StrSl (w.alloc o) a len S :=
  h.below ((Below.refl _ _).alloc (Nat.le_refl _) o)

set_option maxHeartbeats 1000000 in
theorem matches_In (sb eb B : Nat) (va : Option Addr) (vl vc : Nat) (key : ByteArray) (S : Nat → ByteArray) (L : List UInt8 → Option ByteArray) (w : World) (hlab : Labels w B L) (hx : key.size ≤ maxLen) (hS : StrSl w va vl S) (hsb : sb < w.heap.size) (heb : eb < w.heap.size)
    (c0 : w.cell? ⟨sb, 0, none⟩ = some (.map none)) (c1 : w.cell? ⟨sb, 1, none⟩ = some (.slice (some ⟨eb, 0, none⟩) 1 1))
    (e0 : w.cell? ⟨eb, 0, none⟩ = some (.string key)) (e1 : w.cell? ⟨eb, 1, none⟩ = some (.string { data := #[73, 110] })) (e2 : w.cell? ⟨eb, 2, none⟩ = some (.slice va vl vc)) :
    Calls Try.prog 24 #[.pointer (some ⟨sb, 0, none⟩), .map (some B)] w fun e w' => e = .returned (.bool ((fnd (L key.toList) && hasN S (hav (L key.toList)).toList vl))) ∧ Below w.heap.size w w' := by
  have hrg := run_range_nilMap (P := Try.prog) w 26 9 9 Try.underlying26
  have hnx : ∀ ty, (Instr.next (.pointer (some ⟨w.heap.size, 0, none⟩)) false ty).run Try.prog (w.alloc (.mapIter none 0 #[] 0)) = _ := fun ty => run_next_nilMap w ty 0 0 #[]
  have hlk : ∀ o1 o2 : Obj, (Instr.lookup 26 (.map (some B)) (.string key) true).run Try.prog ((w.alloc o1).alloc o2) = _ := fun o1 o2 => ((hlab.alloc o1).alloc o2).look key hx
  have HS : Hid (∀ o1 o2 : Obj, StrSl ((w.alloc o1).alloc o2) va vl S) := fun o1 o2 => (hS.alloc o1).alloc o2
  clear hlab hS
  have HB : Hid (∀ o1 o2 : Obj, Below w.heap.size w ((w.alloc o1).alloc o2)) := fun o1 o2 => ((Below.refl _ _).alloc (Nat.le_refl _) _).alloc (by simp) _
  generalize hav (L key.toList) = hv at *
  generalize fnd (L key.toList) = F at *
  have hR : ∀ o1 o2 : Obj, Calls Try.prog 27 #[.slice va vl vc, .string hv] ((w.alloc o1).alloc o2) fun e w' => e = .returned (.bool (hasN S hv.toList vl)) ∧ w' = ((w.alloc o1).alloc o2) := fun o1 o2 => slcontains_any va vl vc S hv _ (HS.out o1 o2)
  have HR : Hid (∀ o1 o2 : Obj, Calls Try.prog 27 #[.slice va vl vc, .string hv] ((w.alloc o1).alloc o2) fun e w' => e = .returned (.bool (hasN S hv.toList vl)) ∧ w' = ((w.alloc o1).alloc o2)) := hR
  clear hR HS
  generalize hasN S hv.toList vl = R at *
  cases F <;> cases R
  all_goals
    go_enter Try.func24, Try.ntmps24
    go_wp2
    refine wp_loop_rounds 1 ?_
    rw [rounds_succ]
    go_wp2
    refine wp_loop_rounds 2 ?_
    rw [rounds_succ]
    go_wp2_with (go_at_call 27; refine (HR.out _ _).mono ?_; rintro e w' ⟨rfl, rfl⟩)
    first
      | (go_ret; exact ⟨rfl, HB.out _ _⟩)
      | (rw [rounds_succ]; go_wp2; go_ret; exact ⟨rfl, HB.out _ _⟩)

set_option maxHeartbeats 1000000 in
theorem matches_NotIn (sb eb B : Nat) (va : Option Addr) (vl vc : Nat) (key : ByteArray) (S : Nat → ByteArray) (L : List UInt8 → Option ByteArray) (w : World) (hlab : Labels w B L) (hx : key.size ≤ maxLen) (hS : StrSl w va vl S) (hsb : sb < w.heap.size) (heb : eb < w.heap.size)
    (c0 : w.cell? ⟨sb, 0, none⟩ = some (.map none)) (c1 : w.cell? ⟨sb, 1, none⟩ = some (.slice (some ⟨eb, 0, none⟩) 1 1))
    (e0 : w.cell? ⟨eb, 0, none⟩ = some (.string key)) (e1 : w.cell? ⟨eb, 1, none⟩ = some (.string { data := #[78, 111, 116, 73, 110] })) (e2 : w.cell? ⟨eb, 2, none⟩ = some (.slice va vl vc)) :
    Calls Try.prog 24 #[.pointer (some ⟨sb, 0, none⟩), .map (some B)] w fun e w' => e = .returned (.bool (!(fnd (L key.toList) && hasN S (hav (L key.toList)).toList vl))) ∧ Below w.heap.size w w' := by
  have hrg := run_range_nilMap (P := Try.prog) w 26 9 9 Try.underlying26
  have hnx : ∀ ty, (Instr.next (.pointer (some ⟨w.heap.size, 0, none⟩)) false ty).run Try.prog (w.alloc (.mapIter none 0 #[] 0)) = _ := fun ty => run_next_nilMap w ty 0 0 #[]
  have hlk : ∀ o1 o2 : Obj, (Instr.lookup 26 (.map (some B)) (.string key) true).run Try.prog ((w.alloc o1).alloc o2) = _ := fun o1 o2 => ((hlab.alloc o1).alloc o2).look key hx
  have HS : Hid (∀ o1 o2 : Obj, StrSl ((w.alloc o1).alloc o2) va vl S) := fun o1 o2 => (hS.alloc o1).alloc o2
  clear hlab hS
  have HB : Hid (∀ o1 o2 : Obj, Below w.heap.size w ((w.alloc o1).alloc o2)) := fun o1 o2 => ((Below.refl _ _).alloc (Nat.le_refl _) _).alloc (by simp) _
  generalize hav (L key.toList) = hv at *
  generalize fnd (L key.toList) = F at *
  have hR : ∀ o1 o2 : Obj, Calls Try.prog 27 #[.slice va vl vc, .string hv] ((w.alloc o1).alloc o2) fun e w' => e = .returned (.bool (hasN S hv.toList vl)) ∧ w' = ((w.alloc o1).alloc o2) := fun o1 o2 => slcontains_any va vl vc S hv _ (HS.out o1 o2)
  have HR : Hid (∀ o1 o2 : Obj, Calls Try.prog 27 #[.slice va vl vc, .string hv] ((w.alloc o1).alloc o2) fun e w' => e = .returned (.bool (hasN S hv.toList vl)) ∧ w' = ((w.alloc o1).alloc o2)) := hR
  clear hR HS
  generalize hasN S hv.toList vl = R at *
  cases F <;> cases R
  all_goals
    go_enter Try.func24, Try.ntmps24
    go_wp2
    refine wp_loop_rounds 1 ?_
    rw [rounds_succ]
    go_wp2
    refine wp_loop_rounds 2 ?_
    rw [rounds_succ]
    go_wp2_with (go_at_call 27; refine (HR.out _ _).mono ?_; rintro e w' ⟨rfl, rfl⟩)
    first
      | (go_ret; exact ⟨rfl, HB.out _ _⟩)
      | (rw [rounds_succ]; go_wp2; go_ret; exact ⟨rfl, HB.out _ _⟩)

set_option maxHeartbeats 1000000 in
theorem matches_Exists (sb eb B : Nat) (va : Option Addr) (vl vc : Nat) (key : ByteArray) (S : Nat → ByteArray) (L : List UInt8 → Option ByteArray) (w : World) (hlab : Labels w B L) (hx : key.size ≤ maxLen) (hS : StrSl w va vl S) (hsb : sb < w.heap.size) (heb : eb < w.heap.size)
    (c0 : w.cell? ⟨sb, 0, none⟩ = some (.map none)) (c1 : w.cell? ⟨sb, 1, none⟩ = some (.slice (some ⟨eb, 0, none⟩) 1 1))
    (e0 : w.cell? ⟨eb, 0, none⟩ = some (.string key)) (e1 : w.cell? ⟨eb, 1, none⟩ = some (.string { data := #[69, 120, 105, 115, 116, 115] })) (e2 : w.cell? ⟨eb, 2, none⟩ = some (.slice va vl vc)) :
    Calls Try.prog 24 #[.pointer (some ⟨sb, 0, none⟩), .map (some B)] w fun e w' => e = .returned (.bool (fnd (L key.toList))) ∧ Below w.heap.size w w' := by
  have hrg := run_range_nilMap (P := Try.prog) w 26 9 9 Try.underlying26
  have hnx : ∀ ty, (Instr.next (.pointer (some ⟨w.heap.size, 0, none⟩)) false ty).run Try.prog (w.alloc (.mapIter none 0 #[] 0)) = _ := fun ty => run_next_nilMap w ty 0 0 #[]
  have hlk : ∀ o1 o2 : Obj, (Instr.lookup 26 (.map (some B)) (.string key) true).run Try.prog ((w.alloc o1).alloc o2) = _ := fun o1 o2 => ((hlab.alloc o1).alloc o2).look key hx
  have HS : Hid (∀ o1 o2 : Obj, StrSl ((w.alloc o1).alloc o2) va vl S) := fun o1 o2 => (hS.alloc o1).alloc o2
  clear hlab hS
  have HB : Hid (∀ o1 o2 : Obj, Below w.heap.size w ((w.alloc o1).alloc o2)) := fun o1 o2 => ((Below.refl _ _).alloc (Nat.le_refl _) _).alloc (by simp) _
  generalize hav (L key.toList) = hv at *
  generalize fnd (L key.toList) = F at *
  have hR : ∀ o1 o2 : Obj, Calls Try.prog 27 #[.slice va vl vc, .string hv] ((w.alloc o1).alloc o2) fun e w' => e = .returned (.bool (hasN S hv.toList vl)) ∧ w' = ((w.alloc o1).alloc o2) := fun o1 o2 => slcontains_any va vl vc S hv _ (HS.out o1 o2)
  have HR : Hid (∀ o1 o2 : Obj, Calls Try.prog 27 #[.slice va vl vc, .string hv] ((w.alloc o1).alloc o2) fun e w' => e = .returned (.bool (hasN S hv.toList vl)) ∧ w' = ((w.alloc o1).alloc o2)) := hR
  clear hR HS
  generalize hasN S hv.toList vl = R at *
  cases F <;> cases R
  all_goals
    go_enter Try.func24, Try.ntmps24
    go_wp2
    refine wp_loop_rounds 1 ?_
    rw [rounds_succ]
    go_wp2
    refine wp_loop_rounds 2 ?_
    rw [rounds_succ]
    go_wp2_with (go_at_call 27; refine (HR.out _ _).mono ?_; rintro e w' ⟨rfl, rfl⟩)
    first
      | (go_ret; exact ⟨rfl, HB.out _ _⟩)
      | (rw [rounds_succ]; go_wp2; go_ret; exact ⟨rfl, HB.out _ _⟩)

set_option maxHeartbeats 1000000 in
theorem matches_DoesNotExist (sb eb B : Nat) (va : Option Addr) (vl vc : Nat) (key : ByteArray) (S : Nat → ByteArray) (L : List UInt8 → Option ByteArray) (w : World) (hlab : Labels w B L) (hx : key.size ≤ maxLen) (hS : StrSl w va vl S) (hsb : sb < w.heap.size) (heb : eb < w.heap.size)
    (c0 : w.cell? ⟨sb, 0, none⟩ = some (.map none)) (c1 : w.cell? ⟨sb, 1, none⟩ = some (.slice (some ⟨eb, 0, none⟩) 1 1))
    (e0 : w.cell? ⟨eb, 0, none⟩ = some (.string key)) (e1 : w.cell? ⟨eb, 1, none⟩ = some (.string { data := #[68, 111, 101, 115, 78, 111, 116, 69, 120, 105, 115, 116] })) (e2 : w.cell? ⟨eb, 2, none⟩ = some (.slice va vl vc)) :
    Calls Try.prog 24 #[.pointer (some ⟨sb, 0, none⟩), .map (some B)] w fun e w' => e = .returned (.bool (!(fnd (L key.toList)))) ∧ Below w.heap.size w w' := by
  have hrg := run_range_nilMap (P := Try.prog) w 26 9 9 Try.underlying26
  have hnx : ∀ ty, (Instr.next (.pointer (some ⟨w.heap.size, 0, none⟩)) false ty).run Try.prog (w.alloc (.mapIter none 0 #[] 0)) = _ := fun ty => run_next_nilMap w ty 0 0 #[]
  have hlk : ∀ o1 o2 : Obj, (Instr.lookup 26 (.map (some B)) (.string key) true).run Try.prog ((w.alloc o1).alloc o2) = _ := fun o1 o2 => ((hlab.alloc o1).alloc o2).look key hx
  have HS : Hid (∀ o1 o2 : Obj, StrSl ((w.alloc o1).alloc o2) va vl S) := fun o1 o2 => (hS.alloc o1).alloc o2
  clear hlab hS
  have HB : Hid (∀ o1 o2 : Obj, Below w.heap.size w ((w.alloc o1).alloc o2)) := fun o1 o2 => ((Below.refl _ _).alloc (Nat.le_refl _) _).alloc (by simp) _
  generalize hav (L key.toList) = hv at *
  generalize fnd (L key.toList) = F at *
  have hR : ∀ o1 o2 : Obj, Calls Try.prog 27 #[.slice va vl vc, .string hv] ((w.alloc o1).alloc o2) fun e w' => e = .returned (.bool (hasN S hv.toList vl)) ∧ w' = ((w.alloc o1).alloc o2) := fun o1 o2 => slcontains_any va vl vc S hv _ (HS.out o1 o2)
  have HR : Hid (∀ o1 o2 : Obj, Calls Try.prog 27 #[.slice va vl vc, .string hv] ((w.alloc o1).alloc o2) fun e w' => e = .returned (.bool (hasN S hv.toList vl)) ∧ w' = ((w.alloc o1).alloc o2)) := hR
  clear hR HS
  generalize hasN S hv.toList vl = R at *
  cases F <;> cases R
  all_goals
    go_enter Try.func24, Try.ntmps24
    go_wp2
    refine wp_loop_rounds 1 ?_
    rw [rounds_succ]
    go_wp2
    refine wp_loop_rounds 2 ?_
    rw [rounds_succ]
    go_wp2_with (go_at_call 27; refine (HR.out _ _).mono ?_; rintro e w' ⟨rfl, rfl⟩)
    first
      | (go_ret; exact ⟨rfl, HB.out _ _⟩)
      | (rw [rounds_succ]; go_wp2; go_ret; exact ⟨rfl, HB.out _ _⟩)

end Go.Proofs.Qxb6619294a.Sel
