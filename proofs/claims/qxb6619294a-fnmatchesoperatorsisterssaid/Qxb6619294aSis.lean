/-
  FnMatchesOperatorSisters: the law's own walk (4).
-/
import Derived.Test.Qxb6619294aCall
namespace Go.Proofs.Qxb6619294a.Sel
open Go.ChangeShapes Go.WideShapes Go.ChangeAt Go.RowKit Go.Maps

theorem one_put {key v : ByteArray} : Reads ((DataW.map []).put (.string key.data.toList) (.lit (.string v.data.toList))) (one key v) :=
  (Reads.empty.put key v).congr (fun _ => rfl)
theorem and_of {a b A B : Bool} (h : a = A) (h' : b = B) : (a && b) = (A && B) := by rw [h, h']

set_option maxHeartbeats 1000000 in
set_option maxRecDepth 100000 in
theorem sis_ne (a0 a1 a3 : Option Addr) (l0 c0 l1 c1 l3 c3 : Nat) (K V S : Nat → ByteArray) (x v : ByteArray) (w : World) (h0 : StrSl w a0 l0 K) (h1 : StrSl w a1 l1 V) (h3 : StrSl w a3 l3 S) (hx : x.size ≤ maxLen) (hv : v.size ≤ maxLen) (hne : l1 ≠ l0) :
    Calls Try.prog 4 #[.slice a0 l0 c0, .slice a1 l1 c1, .string x, .slice a3 l3 c3, .string v] w fun e w' => e = .returned (.bool true) ∧ Below w.heap.size w w' := by
  have H0 : Hid (StrSl w a0 l0 K) := h0
  have H1 : Hid (StrSl w a1 l1 V) := h1
  have H3 : Hid (StrSl w a3 l3 S) := h3
  have hl0 := h0.1
  have hl1 := h1.1
  have hl3 := h3.1
  have hx' := hx
  have hv' := hv
  unfold maxLen at hx' hv'
  clear h0 h1 h3
  have hne' : ((l1 : Int) != (l0 : Int)) = true := by simp; omega
  go_enter Try.func4, Try.ntmps4
  go_wp2_with fail
  refine (bytes_any a0 a1 a3 l0 c0 l1 c1 l3 c3 K V S x v w H0.out H1.out H3.out hx hv).mono ?_
  rintro e w' ⟨⟨r, rfl⟩, rfl⟩
  cases r
  · go_wp2_with fail
    go_ret
    exact ⟨rfl, Below.refl _ _⟩
  · go_wp2_with fail
    refine (add_any _ a0 l0 c0 K _ H0.out (by decide) (by decide)).mono ?_
    rintro e w' ⟨⟨n0, rfl, hn00, hn01⟩, rfl⟩
    go_wp2_with fail
    refine (add_any _ a1 l1 c1 V _ H1.out hn00 hn01).mono ?_
    rintro e w' ⟨⟨n1, rfl, hn10, hn11⟩, rfl⟩
    clear hn00 hn01
    go_wp2_with fail
    refine (add_any _ a3 l3 c3 S _ H3.out hn10 hn11).mono ?_
    rintro e w' ⟨⟨n3, rfl, hn30, hn31⟩, rfl⟩
    clear hn10 hn11
    go_wp2_with fail
    any_goals (go_ret; exact ⟨rfl, Below.refl _ _⟩)

set_option maxHeartbeats 1000000 in
set_option maxRecDepth 100000 in
theorem sis_eq (hvv : ByteArray) (F R E : Bool) (a0 a1 a3 : Option Addr) (l0 c0 c1 l3 c3 : Nat) (K V S : Nat → ByteArray) (x v : ByteArray) (w : World) (h0 : StrSl w a0 l0 K) (h1 : StrSl w a1 l0 V) (h3 : StrSl w a3 l3 S) (hx : x.size ≤ maxLen) (hv : v.size ≤ maxLen)
    (hO1 : fnd (lookN K V x.toList l0) = F) (hO2 : hav (lookN K V x.toList l0) = hvv) (hO3 : hasN S hvv.toList l3 = R) (hO4 : (hvv.toList == v.toList) = E) :
    Calls Try.prog 4 #[.slice a0 l0 c0, .slice a1 l0 c1, .string x, .slice a3 l3 c3, .string v] w fun e w' => e = .returned (.bool true) ∧ Below w.heap.size w w' := by
  have H0 : Hid (StrSl w a0 l0 K) := h0
  have H1 : Hid (StrSl w a1 l0 V) := h1
  have H3 : Hid (StrSl w a3 l3 S) := h3
  have hl0 := h0.1
  have hl1 := h1.1
  have hl3 := h3.1
  have hx' := hx
  have hv' := hv
  unfold maxLen at hx' hv'
  have O1 : Hid (fnd (lookN K V x.toList l0) = F) := hO1
  have O2 : Hid (hav (lookN K V x.toList l0) = hvv) := hO2
  have O3 : Hid (hasN S (hav (lookN K V x.toList l0)).toList l3 = R) := by
    show hasN S (hav (lookN K V x.toList l0)).toList l3 = R
    rw [hO2]; exact hO3
  have O4 : Hid (((hav (lookN K V x.toList l0)).toList == v.toList) = E) := by
    show ((hav (lookN K V x.toList l0)).toList == v.toList) = E
    rw [hO2]; exact hO4
  have O3' : Hid (hasN S hvv.toList l3 = R) := hO3
  have O4' : Hid ((hvv.toList == v.toList) = E) := hO4
  clear h0 h1 h3 hO1 hO2 hO3 hO4

  go_enter Try.func4, Try.ntmps4
  go_wp2_with fail
  refine (bytes_any a0 a1 a3 l0 c0 l0 c1 l3 c3 K V S x v w H0.out H1.out H3.out hx hv).mono ?_
  rintro e w' ⟨⟨r, rfl⟩, rfl⟩
  cases r
  · go_wp2_with fail
    go_ret
    exact ⟨rfl, Below.refl _ _⟩
  · go_wp2_with fail
    refine (add_any _ a0 l0 c0 K _ H0.out (by decide) (by decide)).mono ?_
    rintro e w' ⟨⟨n0, rfl, hn00, hn01⟩, rfl⟩
    go_wp2_with fail
    refine (add_any _ a1 l0 c1 V _ H1.out hn00 hn01).mono ?_
    rintro e w' ⟨⟨n1, rfl, hn10, hn11⟩, rfl⟩
    clear hn00 hn01
    go_wp2_with fail
    refine (add_any _ a3 l3 c3 S _ H3.out hn10 hn11).mono ?_
    rintro e w' ⟨⟨n3, rfl, hn30, hn31⟩, rfl⟩
    clear hn10 hn11
    go_wp2_with fail
    any_goals (go_ret; exact ⟨rfl, Below.refl _ _⟩)
    clear hn30 hn31
    refine (build_any a0 a1 _ c0 c1 K V _ H0.out H1.out).mono ?_
    rintro e w1 ⟨rfl, ⟨D, hown, hR⟩, hb1⟩
    have HLab : Hid (Labels w1 w'.heap.size (fun l => lookN K V l l0)) := ⟨_, D, hown, hR⟩
    have HV : Hid (StrSl w1 a3 l3 S) := H3.out.below hb1
    have HB : Hid (Below w'.heap.size w' w1) := hb1
    clear hown hR hb1
    go_wp2_with fail
    refine (call_In _ a3 l3 c3 S F R x _ w1 HLab.out hx HV.out O1.out O3.out).mono ?_
    rintro e w2 ⟨rfl, hb⟩
    have HLab2 : Hid (Labels w2 w'.heap.size (fun l => lookN K V l l0)) := HLab.out.below hb
    have HV2 : Hid (StrSl w2 a3 l3 S) := HV.out.below hb
    have HB2 : Hid (Below w'.heap.size w' w2) := HB.out.trans (hb.mono HB.out.size)
    clear HLab HV HB hb
    go_wp2_with fail
    refine (call_NotIn _ a3 l3 c3 S F R x _ w2 HLab2.out hx HV2.out O1.out O3.out).mono ?_
    rintro e w3 ⟨rfl, hb⟩
    have HLab : Hid (Labels w3 w'.heap.size (fun l => lookN K V l l0)) := HLab2.out.below hb
    have HB : Hid (Below w'.heap.size w' w3) := HB2.out.trans (hb.mono HB2.out.size)
    clear HLab2 HV2 HB2 hb
    go_wp2_with fail
    refine (call_Exists _ F x _ w3 HLab.out hx O1.out).mono ?_
    rintro e w4 ⟨rfl, hb⟩
    have HLab2 : Hid (Labels w4 w'.heap.size (fun l => lookN K V l l0)) := HLab.out.below hb
    have HB2 : Hid (Below w'.heap.size w' w4) := HB.out.trans (hb.mono HB.out.size)
    clear HLab HB hb
    go_wp2_with fail
    refine (call_DoesNotExist _ F x _ w4 HLab2.out hx O1.out).mono ?_
    rintro e w5 ⟨rfl, hb⟩
    have HLab : Hid (Labels w5 w'.heap.size (fun l => lookN K V l l0)) := HLab2.out.below hb
    have HB : Hid (Below w'.heap.size w' w5) := HB2.out.trans (hb.mono HB2.out.size)
    clear HLab2 HB2 hb
    obtain ⟨w6, hrun, hown, hgr⟩ := (World.ownsMap_made w5 Try.prog 9 (plainElem (H := Unit) Try.prog 9)).update law9 Try.underlying26 (by unfold maxLen; decide) (Go.WideMaps.keyOf_string_mk Try.underlying9 hx) (plainElem_string (H := Unit) Try.underlying9 hv)
    have hb : Below w5.heap.size w5 w6 := ((Below.refl _ _).alloc (Nat.le_refl _) _).grown hgr (by simp) (fun j hj => by cases hj; exact Nat.le_refl _)
    have HLab2 : Hid (Labels w6 w'.heap.size (fun l => lookN K V l l0)) := HLab.out.below hb
    have HB2 : Hid (Below w'.heap.size w' w6) := HB.out.trans (hb.mono HB.out.size)
    have HO : Hid (w6.ownsMap Try.prog 9 (plainElem (H := Unit) Try.prog 9) w5.heap.size (0 + 1) ((DataW.map []).put (.string x.data.toList) (.lit (.string v.data.toList)))) := hown
    clear HLab HB hb hown hgr
    have hmm := @run_makeMap Try.prog
    go_wp2_with fail
    refine (call_Label _ w5.heap.size 1 _ x v (F && E) _ w6 HLab2.out hx HO.out one_put (and_of O1.out O4.out)).mono ?_
    rintro e w7 ⟨rfl, hb⟩
    have HLab : Hid (Labels w7 w'.heap.size (fun l => lookN K V l l0)) := HLab2.out.below hb
    have HB : Hid (Below w'.heap.size w' w7) := HB2.out.trans (hb.mono HB2.out.size)
    clear HLab2 HB2 hb HO hrun hmm
    go_wp2_with fail
    refine (call_One _ F E x v _ w7 HLab.out hx hv O1.out O4.out).mono ?_
    rintro e w8 ⟨rfl, hb⟩
    have HB2 : Hid (Below w'.heap.size w' w8) := HB.out.trans (hb.mono HB.out.size)
    clear HLab HB hb
    go_wp2_with fail
    refine (call_Empty _ w8).mono ?_
    rintro e w9 ⟨rfl, hb⟩
    have HB : Hid (Below w'.heap.size w' w9) := HB2.out.trans (hb.mono HB2.out.size)
    have HK9 : Hid (StrSl w9 a0 l0 K) := H0.out.below HB.out
    have HV9 : Hid (StrSl w9 a1 l0 V) := H1.out.below HB.out
    have HS9 : Hid (StrSl w9 a3 l3 S) := H3.out.below HB.out
    clear HB2 hb H0 H1 H3
    have hlook := look_any a0 a1 l0 c0 c1 K V x w9 HK9.out HV9.out
    rw [O1.out, O2.out] at hlook
    have HLk : Hid (Calls Try.prog 12 #[.slice a0 l0 c0, .slice a1 l0 c1, .string x] w9 fun e w' => e = .returned (.tuple #[.string hvv, .bool F]) ∧ w' = w9) := hlook
    have hcon := contains_any a3 l3 c3 S hvv w9 HS9.out
    rw [O3'.out] at hcon
    have HCo : Hid (Calls Try.prog 15 #[.slice a3 l3 c3, .string hvv] w9 fun e w' => e = .returned (.bool R) ∧ w' = w9) := hcon
    clear hlook hcon HK9 HV9 HS9 O1 O2 O3 O4 O3'
    have he := O4'.out
    clear O4'
    go_wp2_with fail
    refine HLk.out.mono ?_
    rintro e w10 ⟨rfl, hw⟩
    subst hw
    clear HLk
    cases F <;> cases R <;> cases E
    all_goals
      go_wp2_with (go_at_call 15; refine HCo.out.mono ?_; rintro e w11 ⟨rfl, hw⟩; subst hw)
      go_ret
      exact ⟨rfl, HB.out⟩

end Go.Proofs.Qxb6619294a.Sel
