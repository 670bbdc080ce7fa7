/-
  The plain laws of FnDNSLabelJoins: no Go in sight but for the functions' plain forms.
-/
import Derived.Test.Qxb6619294aAuto
namespace Go.Proofs.Qxb6619294a.Dns

theorem aln_not_dash (c : UInt8) (h : aln c = true) : (c == 45) = false := by
  rw [aln_int] at h
  rw [dash_int]
  simp at h ⊢
  omega

theorem fold_three (l : List UInt8) : l.foldl stp 3 = 3 := by
  induction l with
  | nil => rfl
  | cons c l ih => exact ih

/-- the last byte is no dash; where there is none, the state is 1 -/
def fin (st : Int) (l : List UInt8) : Bool := match l.getLast? with
  | none => st == 1
  | some d => !(d == 45)

theorem fin_cons (st st' : Int) (c : UInt8) (l : List UInt8) (h : (st' == 1) = !(c == 45)) : fin st (c :: l) = fin st' l := by
  unfold fin
  rw [List.getLast?_cons]
  cases l.getLast? with
  | none => exact h.symm
  | some d => rfl

theorem fold_begun (l : List UInt8) : ∀ st : Int, (st = 1 ∨ st = 2) → (l.foldl stp st == 1) = (l.all okc && fin st l) := by
  induction l with
  | nil => intro st _; exact (Bool.true_and _).symm
  | cons c l ih =>
    intro st hst
    have h3 : (st == 3) = false := by rcases hst with rfl | rfl <;> rfl
    have h0 : (st != 0) = true := by rcases hst with rfl | rfl <;> rfl
    rw [List.foldl_cons, List.all_cons]
    cases ha : aln c with
    | true =>
      have hs : stp st c = 1 := by unfold stp; rw [h3, ha]; rfl
      have hd := aln_not_dash c ha
      have ho : okc c = true := by unfold okc; rw [ha]; rfl
      rw [hs, ih 1 (Or.inl rfl), ho, fin_cons st 1 c l (by rw [hd]; rfl), Bool.true_and]
    | false =>
      cases hd : (c == 45) with
      | true =>
        have hs : stp st c = 2 := by unfold stp; rw [h3, ha, hd, h0]; rfl
        have ho : okc c = true := by unfold okc; rw [ha, hd]; rfl
        rw [hs, ih 2 (Or.inr rfl), ho, fin_cons st 2 c l (by rw [hd]; rfl), Bool.true_and]
      | false =>
        have hs : stp st c = 3 := by unfold stp; rw [h3, ha, hd]; rfl
        have ho : okc c = false := by unfold okc; rw [ha, hd]; rfl
        rw [hs, fold_three, ho]; rfl

theorem frm_run (l : List UInt8) : frm l = (run l == 1) := by
  cases l with
  | nil => rfl
  | cons c l =>
    unfold run frm
    rw [List.foldl_cons, List.all_cons, List.getLast?_cons]
    have e1 : ((c :: l).head? == some 45) = (c == 45) := rfl
    have e2 : (some (l.getLast?.getD c) == some 45) = (l.getLast?.getD c == 45) := rfl
    rw [e1, e2]
    cases ha : aln c with
    | true =>
      have hs : stp 0 c = 1 := by unfold stp; rw [ha]; rfl
      have hd := aln_not_dash c ha
      have ho : okc c = true := by unfold okc; rw [ha]; rfl
      rw [hs, fold_begun l 1 (Or.inl rfl), ho, hd]
      unfold fin
      cases hl : l.getLast? with
      | none => simp [hd]
      | some d => simp [Bool.and_comm]
    | false =>
      have hs : stp 0 c = 3 := by unfold stp; rw [ha]; simp
      rw [hs, fold_three]
      cases hd : (c == 45) with
      | true => rfl
      | false =>
        have ho : okc c = false := by unfold okc; rw [ha, hd]; rfl
        rw [ho]; simp

theorem getLast_mid (s t : List UInt8) (d : UInt8) : (s ++ [d] ++ t).getLast? = some (t.getLast?.getD d) := by
  rw [List.append_assoc, List.getLast?_append, List.singleton_append, List.getLast?_cons]; rfl
theorem head_mid (s t : List UInt8) (d : UInt8) : (s ++ [d] ++ t).head? = some (s.head?.getD d) := by
  cases s <;> rfl
theorem all_mid (s t : List UInt8) (d : UInt8) : (s ++ [d] ++ t).all okc = (s.all okc && okc d && t.all okc) := by
  simp [Bool.and_assoc]
theorem nonempty_mid (s t : List UInt8) (d : UInt8) : (s ++ [d] ++ t).isEmpty = false := by
  cases s <;> rfl

theorem frm_mid (s t : List UInt8) (d : UInt8) : frm (s ++ [d] ++ t) = (!(s.head?.getD d == 45) && !(t.getLast?.getD d == 45) && (s.all okc && okc d && t.all okc)) := by
  unfold frm
  rw [getLast_mid, head_mid, all_mid, nonempty_mid]
  rfl

theorem law_digit (s t : List UInt8) : frm (s ++ [48] ++ t) = (frm (s ++ [48]) && frm ([48] ++ t)) := by
  have h1 := frm_mid s t 48
  have h2 := frm_mid s [] 48
  have h3 := frm_mid [] t 48
  rw [List.append_nil] at h2
  rw [List.nil_append] at h3
  have ho : okc 48 = true := by decide
  rw [h1, h2, h3, ho]
  have e1 : ((([] : List UInt8).getLast?.getD 48) == 45) = false := rfl
  have e2 : ((([] : List UInt8).head?.getD 48) == 45) = false := rfl
  rw [e1, e2]
  have e3 : ([] : List UInt8).all okc = true := rfl
  rw [e3]
  cases (s.head?.getD 48 == 45) <;> cases (t.getLast?.getD 48 == 45) <;> cases s.all okc <;> cases t.all okc <;> rfl

theorem law_dash (s t : List UInt8) : frm (s ++ [45] ++ t) = (!s.isEmpty && !t.isEmpty && frm (s ++ [48] ++ t)) := by
  rw [frm_mid, frm_mid]
  have ho : okc 48 = true := by decide
  have ho' : okc 45 = true := by decide
  rw [ho, ho']
  cases s with
  | nil => rfl
  | cons a s =>
    cases h : t.getLast? with
    | none =>
      have : t = [] := by simpa using h
      subst this
      cases (a == 45) <;> simp
    | some d =>
      have : t.isEmpty = false := by cases t with
        | nil => simp at h
        | cons b t => rfl
      rw [this]
      rfl

theorem data_app (a b : ByteArray) : (a ++ b).data.toList = a.data.toList ++ b.data.toList := by
  simp

theorem S_digit (s t : ByteArray) : frmS (s ++ { data := #[48] } ++ t) = (frmS (s ++ { data := #[48] }) && frmS ({ data := #[48] } ++ t)) := by
  unfold frmS
  rw [data_app, data_app, data_app]
  exact law_digit _ _
theorem S_dash (s t : ByteArray) : frmS (s ++ { data := #[45] } ++ t) = (!s.toList.isEmpty && !t.toList.isEmpty && frmS (s ++ { data := #[48] } ++ t)) := by
  unfold frmS
  rw [data_app, data_app, data_app, data_app, ByteArray.toList_eq, ByteArray.toList_eq]
  exact law_dash _ _
theorem S_auto (s : ByteArray) : frmS s = acc s := frm_run _
theorem size_app (s t : ByteArray) : (s ++ t).size = s.size + t.size := by simp

end Go.Proofs.Qxb6619294a.Dns
