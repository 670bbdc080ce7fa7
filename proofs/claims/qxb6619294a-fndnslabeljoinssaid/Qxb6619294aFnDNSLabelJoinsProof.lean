/-
  THE PROOF OF 'Rows.FnDNSLabelJoinsSaid'. The frame was written by program (proof-skeleton.mjs) off the guide's own print for that function.
  The frame is the guide's template at this function's number and types; the walk is ours.
-/
import Derived.Test.Qxb6619294aRows
import Derived.Test.Qxb6619294aDnsLaw
import Derived.WalkKit
import Derived.ProofKit
import Derived.OpenShut
import Derived.ShutString
namespace Go.Proofs.Qxb6619294a.fnDNSLabelJoins
open Go.ChangeShapes Go.WideShapes Go.ChangeAt Go.RowKit
open Go.ChangeMaps (open_string shut_string)
open Go.Proofs.Qxb6619294a.Dns
set_option linter.unusedVariables false      -- a walk need not use every 'w<i>' (that an integer argument fits its kind)

theorem own : ownKnob Try.prog.godebug = none := by kernel_rfl

/-- the walk, its five answers given -/
theorem walk_of (a0 : ByteArray) (a1 : ByteArray) (w0 : a0.size ≤ maxLen) (w1 : a1.size ≤ maxLen) (w : World) (L R E F : Bool)
    (hL : frmS (a0 ++ { data := #[48] }) = L) (hR : frmS ({ data := #[48] } ++ a1) = R) (hA : frmS (a0 ++ { data := #[48] } ++ a1) = (L && R))
    (hE : a0.toList.isEmpty = E) (hF : a1.toList.isEmpty = F) (hD : frmS (a0 ++ { data := #[45] } ++ a1) = (!E && !F && (L && R))) (hP : frmS (a0 ++ a1) = acc (a0 ++ a1)) :
    Calls Try.prog 7 #[.string a0, .string a1] w fun e w' => e = .returned (.bool true) ∧ Grown w w' := by
  by_cases s0 : a0.size ≤ 524288
  · by_cases s1 : a1.size ≤ 524288
    · have b1 : (a0 ++ { data := #[48] } ++ a1).size ≤ 2000000 := by rw [size_app, size_app]; show _ + 1 + _ ≤ _; omega
      have b2 : (a0 ++ { data := #[48] }).size ≤ 2000000 := by rw [size_app]; show _ + 1 ≤ _; omega
      have b3 : (ByteArray.mk #[48] ++ a1).size ≤ 2000000 := by rw [size_app]; show 1 + _ ≤ _; omega
      have b4 : (a0 ++ { data := #[45] } ++ a1).size ≤ 2000000 := by rw [size_app, size_app]; show _ + 1 + _ ≤ _; omega
      have b5 : (a0 ++ a1).size ≤ 2000000 := by rw [size_app]; omega
      go_enter Try.func7, Try.ntmps7
      go_wp2_with (first | (go_at_call 21; refine (bytes21 _ _ _ w0 w1).mono ?_; rintro e w' ⟨⟨r, rfl⟩, rfl⟩; rcases r with _ | _) | (go_at_call 22; refine (zzform_any _ _ (by assumption)).mono ?_; rintro e w' ⟨rfl, rfl⟩) | (go_at_call 23; refine (auto_any _ _ (by assumption)).mono ?_; rintro e w' ⟨rfl, rfl⟩))
      all_goals
        go_ret
        exact ⟨by simp, Grown.refl _⟩
    · go_enter Try.func7, Try.ntmps7
      go_wp2_with (first | (go_at_call 21; refine (bytes21 _ _ _ w0 w1).mono ?_; rintro e w' ⟨⟨r, rfl⟩, rfl⟩; rcases r with _ | _))
      all_goals
        go_ret
        exact ⟨by simp, Grown.refl _⟩
  · go_enter Try.func7, Try.ntmps7
    go_wp2_with (first | (go_at_call 21; refine (bytes21 _ _ _ w0 w1).mono ?_; rintro e w' ⟨⟨r, rfl⟩, rfl⟩; rcases r with _ | _))
    all_goals
      go_ret
      exact ⟨by simp, Grown.refl _⟩

/-! ### STEP 1: THE WALK: the Go text returns true. 'Grown w w'': the world has at most new blocks (Derived/RowKit3.lean). Part the cases AHEAD of 'go_enter' where a test parts the walk; take each callee by a contract of your own. -/
theorem walk (a0 : ByteArray) (a1 : ByteArray) (w0 : a0.size ≤ maxLen) (w1 : a1.size ≤ maxLen) (w : World) :
    Calls Try.prog 7 #[.string a0, .string a1] w fun e w' => e = .returned (.bool true) ∧ Grown w w' :=
  walk_of a0 a1 w0 w1 w _ _ _ _ rfl rfl (S_digit a0 a1) rfl rfl (by rw [S_dash, S_digit]) (S_auto _)

/-! ### THE ROW's STEP: WRITTEN OUT: LEAVE IT -/
set_option maxRecDepth 100000 in
theorem lifted (os : Os) (started : os.Started) (H : Type) (enc : TypeId × Value → H) :
    ReturnsInHanded {} Try.checked os 7 .any (Rows.fnDNSLabelJoinsSpec.pre6 enc Try.prog Try.f7 Rows.fnDNSLabelJoinsRow.domain false) (Rows.fnDNSLabelJoinsSpec.post enc Try.prog Try.f7 false true false false) := by
  refine returnsInHanded_of_change (C := Try.checked) own started (by kernel_rfl) Try.func7
    (ChangeSpec.witness6 (enc := enc) (C := Try.checked) false ⟨#[], #[.string ByteArray.empty, .string ByteArray.empty], []⟩ 8 (by kernel_rfl) (by kernel_rfl) (by kernel_rfl) (by kernel_rfl)) ?_
  intro W base args ds gs before hval0 hW hcnd _
  have hval : ∀ (j : Nat) t v, Try.f7.params[j]? = some t → args[j]? = some v → Value.okWide Try.prog W .any base t v := hval0
  have hW' := hW
  obtain ⟨p, q, hA0, hV, rfl, hfz, hnd⟩ := hW
  have hA : DataW.TrodAll enc Try.prog W 0 (fun _ => true) true Try.f7.params.toList args.toList ds p := hA0
  rw [Try.params7] at hA hval
  obtain ⟨v0, vs0, d0, ds0, p0, q0, hargs, rfl, rfl, h0, r0⟩ := trodAll_cons hA
  obtain ⟨v1, vs1, d1, ds1, p1, q1, rfl, rfl, rfl, h1, r1⟩ := trodAll_cons r0
  obtain ⟨rfl, rfl, rfl⟩ := trodAll_nil r1
  obtain rfl : args = #[v0, v1] := by cases args; simp_all
  obtain ⟨rfl, rfl⟩ := trodVars_none hV
  obtain ⟨a0, rfl, rfl, rfl, w0⟩ := open_string Try.underlying9 (hval 0 9 v0 rfl rfl) h0
  obtain ⟨a1, rfl, rfl, rfl, w1⟩ := open_string Try.underlying9 (hval 1 9 v1 rfl rfl) h1
  clear hA0 hval0
  simp only [List.append_nil] at hW'
  refine (walk a0 a1 w0 w1 W).mono fun e W' ⟨he, hg⟩ => ?_
  subst he
  exact ⟨_, rfl, post_of_same (pa := []) (pv := []) hW' (fun _ _ _ => (trodAll_cons_mk (shut_bool Try.underlying4 _) trodAll_mk0)) (fun sp _ => (trodAll_cons_mk (shut_string Try.underlying9 w0) (trodAll_cons_mk (shut_string Try.underlying9 w1) trodAll_mk0))) (fun _ _ => rfl) rfl
    (hg.frame _) hg.2.1 (ok_one (by kernel_rfl) rfl (okWide_bool_mk Try.underlying4 _))⟩

theorem over : Rows.fnDNSLabelJoinsRow.holds Try.pinned (OpenSpec.ofChange Rows.fnDNSLabelJoinsSpec) :=
  OpenClaim.holds_of_wide 7 Try.f7 rfl rfl rfl rfl rfl rfl rfl ⟨rfl, rfl, rfl, rfl, rfl⟩ rfl rfl rfl rfl rfl (by kernel_rfl) Try.func7 (by kernel_rfl)
    (of_decide_eq_true (by kernel_rfl)) (by unfold Func.isWrapper; first | (rw [if_pos (by decide +kernel)]; kernel_rfl) | (rw [if_neg (by decide +kernel)]; exact ⟨rfl, rfl⟩))
    (fun os started H enc _ => lifted os started H enc)

/-- ████ THE STATEMENT ████ -/
theorem proved : Rows.FnDNSLabelJoinsSaid :=
  over
#print axioms proved
end Go.Proofs.Qxb6619294a.fnDNSLabelJoins
