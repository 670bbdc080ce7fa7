/-
  FnMatchesOperatorSisters: ZZMatches (11) at the very worlds in which the law calls it.
-/
import Derived.Test.Qxb6619294aMatch2
namespace Go.Proofs.Qxb6619294a.Sel
open Go.ChangeShapes Go.WideShapes Go.ChangeAt Go.RowKit Go.Maps

theorem below_two (w : World) (o1 o2 : Obj) {w' : World} (hb : Below ((w.alloc o1).alloc o2).heap.size ((w.alloc o1).alloc o2) w') : Below w.heap.size w w' :=
  (((Below.refl _ _).alloc (Nat.le_refl _) o1).alloc (by simp) o2).trans (hb.mono (by simp; omega))

theorem call_In (B : Nat) (va : Option Addr) (vl vc : Nat) (S : Nat → ByteArray) (F R : Bool) (key : ByteArray) (L : List UInt8 → Option ByteArray) (w : World) (hlab : Labels w B L) (hx : key.size ≤ maxLen) (hS : StrSl w va vl S) (hF : fnd (L key.toList) = F) (hR : hasN S (hav (L key.toList)).toList vl = R) :
    Calls Try.prog 11 #[.pointer (some ⟨w.heap.size + 1, 0, none⟩), .map (some B)] ((w.alloc (.cells #[.string key, .string { data := #[73, 110] }, .slice va vl vc] 30)).alloc (.cells #[.map none, .slice (some ⟨w.heap.size, 0, none⟩) 1 1] 34)) fun e w' => e = .returned (.bool ((F && R))) ∧ Below w.heap.size w w' := by
  have hs : StrSl w va vl S := hS
  have h := matches_In (w.heap.size + 1) w.heap.size B va vl vc key S L ((w.alloc (.cells #[.string key, .string { data := #[73, 110] }, .slice va vl vc] 30)).alloc (.cells #[.map none, .slice (some ⟨w.heap.size, 0, none⟩) 1 1] 34))
    ((hlab.alloc _).alloc _) hx ((hs.alloc _).alloc _) (by simp) (by simp; omega) (by go_simp) (by go_simp) (by go_simp) (by go_simp) (by go_simp)
  rw [hF, hR] at h
  refine (zzmatches_of _ _ _ _ h).mono ?_
  rintro e w' ⟨he, hb⟩
  exact ⟨he, below_two w _ _ hb⟩

theorem call_NotIn (B : Nat) (va : Option Addr) (vl vc : Nat) (S : Nat → ByteArray) (F R : Bool) (key : ByteArray) (L : List UInt8 → Option ByteArray) (w : World) (hlab : Labels w B L) (hx : key.size ≤ maxLen) (hS : StrSl w va vl S) (hF : fnd (L key.toList) = F) (hR : hasN S (hav (L key.toList)).toList vl = R) :
    Calls Try.prog 11 #[.pointer (some ⟨w.heap.size + 1, 0, none⟩), .map (some B)] ((w.alloc (.cells #[.string key, .string { data := #[78, 111, 116, 73, 110] }, .slice va vl vc] 30)).alloc (.cells #[.map none, .slice (some ⟨w.heap.size, 0, none⟩) 1 1] 34)) fun e w' => e = .returned (.bool (!(F && R))) ∧ Below w.heap.size w w' := by
  have hs : StrSl w va vl S := hS
  have h := matches_NotIn (w.heap.size + 1) w.heap.size B va vl vc key S L ((w.alloc (.cells #[.string key, .string { data := #[78, 111, 116, 73, 110] }, .slice va vl vc] 30)).alloc (.cells #[.map none, .slice (some ⟨w.heap.size, 0, none⟩) 1 1] 34))
    ((hlab.alloc _).alloc _) hx ((hs.alloc _).alloc _) (by simp) (by simp; omega) (by go_simp) (by go_simp) (by go_simp) (by go_simp) (by go_simp)
  rw [hF, hR] at h
  refine (zzmatches_of _ _ _ _ h).mono ?_
  rintro e w' ⟨he, hb⟩
  exact ⟨he, below_two w _ _ hb⟩

theorem call_Exists (B : Nat) (F : Bool) (key : ByteArray) (L : List UInt8 → Option ByteArray) (w : World) (hlab : Labels w B L) (hx : key.size ≤ maxLen) (hF : fnd (L key.toList) = F) :
    Calls Try.prog 11 #[.pointer (some ⟨w.heap.size + 1, 0, none⟩), .map (some B)] ((w.alloc (.cells #[.string key, .string { data := #[69, 120, 105, 115, 116, 115] }, .slice none 0 0] 30)).alloc (.cells #[.map none, .slice (some ⟨w.heap.size, 0, none⟩) 1 1] 34)) fun e w' => e = .returned (.bool (F)) ∧ Below w.heap.size w w' := by
  have hs : StrSl w none 0 (fun _ => { data := #[] }) := ⟨by decide, Or.inl rfl, fun j hj => absurd hj (Nat.not_lt_zero _)⟩
  have h := matches_Exists (w.heap.size + 1) w.heap.size B none 0 0 key (fun _ => { data := #[] }) L ((w.alloc (.cells #[.string key, .string { data := #[69, 120, 105, 115, 116, 115] }, .slice none 0 0] 30)).alloc (.cells #[.map none, .slice (some ⟨w.heap.size, 0, none⟩) 1 1] 34))
    ((hlab.alloc _).alloc _) hx ((hs.alloc _).alloc _) (by simp) (by simp; omega) (by go_simp) (by go_simp) (by go_simp) (by go_simp) (by go_simp)
  rw [hF] at h
  refine (zzmatches_of _ _ _ _ h).mono ?_
  rintro e w' ⟨he, hb⟩
  exact ⟨he, below_two w _ _ hb⟩

theorem call_DoesNotExist (B : Nat) (F : Bool) (key : ByteArray) (L : List UInt8 → Option ByteArray) (w : World) (hlab : Labels w B L) (hx : key.size ≤ maxLen) (hF : fnd (L key.toList) = F) :
    Calls Try.prog 11 #[.pointer (some ⟨w.heap.size + 1, 0, none⟩), .map (some B)] ((w.alloc (.cells #[.string key, .string { data := #[68, 111, 101, 115, 78, 111, 116, 69, 120, 105, 115, 116] }, .slice none 0 0] 30)).alloc (.cells #[.map none, .slice (some ⟨w.heap.size, 0, none⟩) 1 1] 34)) fun e w' => e = .returned (.bool (!F)) ∧ Below w.heap.size w w' := by
  have hs : StrSl w none 0 (fun _ => { data := #[] }) := ⟨by decide, Or.inl rfl, fun j hj => absurd hj (Nat.not_lt_zero _)⟩
  have h := matches_DoesNotExist (w.heap.size + 1) w.heap.size B none 0 0 key (fun _ => { data := #[] }) L ((w.alloc (.cells #[.string key, .string { data := #[68, 111, 101, 115, 78, 111, 116, 69, 120, 105, 115, 116] }, .slice none 0 0] 30)).alloc (.cells #[.map none, .slice (some ⟨w.heap.size, 0, none⟩) 1 1] 34))
    ((hlab.alloc _).alloc _) hx ((hs.alloc _).alloc _) (by simp) (by simp; omega) (by go_simp) (by go_simp) (by go_simp) (by go_simp) (by go_simp)
  rw [hF] at h
  refine (zzmatches_of _ _ _ _ h).mono ?_
  rintro e w' ⟨he, hb⟩
  exact ⟨he, below_two w _ _ hb⟩

theorem call_Empty (B : Nat) (w : World) :
    Calls Try.prog 11 #[.pointer (some ⟨w.heap.size, 0, none⟩), .map (some B)] (w.alloc (.cells #[.map none, .slice none 0 0] 34)) fun e w' => e = .returned (.bool true) ∧ Below w.heap.size w w' := by
  have h := matches_empty w.heap.size B (w.alloc (.cells #[.map none, .slice none 0 0] 34)) (by simp) (by go_simp) (by go_simp)
  refine (zzmatches_of _ _ _ _ h).mono ?_
  rintro e w' ⟨he, hb⟩
  exact ⟨he, ((Below.refl _ _).alloc (Nat.le_refl _) _).trans (hb.mono (by simp))⟩

theorem call_Label (B mb n : Nat) (D : DataW Unit) (key v : ByteArray) (C : Bool) (L : List UInt8 → Option ByteArray) (w : World) (hlab : Labels w B L) (hx : key.size ≤ maxLen)
    (hown : w.ownsMap Try.prog 9 (plainElem (H := Unit) Try.prog 9) mb n D) (hD : Reads D (one key v)) (hC : (fnd (L key.toList) && ((hav (L key.toList)).toList == v.toList)) = C) :
    Calls Try.prog 11 #[.pointer (some ⟨w.heap.size, 0, none⟩), .map (some B)] (w.alloc (.cells #[.map (some mb), .slice none 0 0] 34)) fun e w' => e = .returned (.bool C) ∧ Below w.heap.size w w' := by
  have h := matches_label w.heap.size mb n B D key v C L (w.alloc (.cells #[.map (some mb), .slice none 0 0] 34)) (hlab.alloc _) hx (by simp) (hown.alloc _) hD hC (by go_simp) (by go_simp)
  refine (zzmatches_of _ _ _ _ h).mono ?_
  rintro e w' ⟨he, hb⟩
  exact ⟨he, ((Below.refl _ _).alloc (Nat.le_refl _) _).trans (hb.mono (by simp))⟩

/-- the requirement 'key In [v]' -/
theorem call_One (B : Nat) (F E : Bool) (key v : ByteArray) (L : List UInt8 → Option ByteArray) (w : World) (hlab : Labels w B L) (hx : key.size ≤ maxLen) (hv : v.size ≤ maxLen) (hF : fnd (L key.toList) = F) (hE : ((hav (L key.toList)).toList == v.toList) = E) :
    Calls Try.prog 11 #[.pointer (some ⟨w.heap.size + 2, 0, none⟩), .map (some B)] (((w.alloc (.cells #[.string v] 9)).alloc (.cells #[.string key, .string { data := #[73, 110] }, .slice (some ⟨w.heap.size, 0, none⟩) 1 1] 30)).alloc (.cells #[.map none, .slice (some ⟨w.heap.size + 1, 0, none⟩) 1 1] 34)) fun e w' => e = .returned (.bool (F && E)) ∧ Below w.heap.size w w' := by
  have hs : StrSl (w.alloc (.cells #[.string v] 9)) (some ⟨w.heap.size, 0, none⟩) 1 (fun _ => v) := by
    refine ⟨by decide, Or.inr ⟨w.heap.size, 0, rfl, by simp, fun j hj => ?_⟩, fun _ _ => hv⟩
    obtain rfl : j = 0 := by omega
    go_simp
  have e1 : (w.alloc (.cells #[.string v] 9)).heap.size = w.heap.size + 1 := by simp
  have hR : hasN (fun _ => v) (hav (L key.toList)).toList 1 = E := by
    rw [← hE]
    show (false || (v.toList == (hav (L key.toList)).toList)) = _
    rw [Bool.false_or, Bool.beq_comm]
  have h := call_In B (some ⟨w.heap.size, 0, none⟩) 1 1 (fun _ => v) F E key L (w.alloc (.cells #[.string v] 9)) (hlab.alloc _) hx hs hF hR
  rw [e1] at h
  refine h.mono ?_
  rintro e w' ⟨he, hb⟩
  exact ⟨he, ((Below.refl _ _).alloc (Nat.le_refl _) _).trans (hb.mono (by simp))⟩

end Go.Proofs.Qxb6619294a.Sel
