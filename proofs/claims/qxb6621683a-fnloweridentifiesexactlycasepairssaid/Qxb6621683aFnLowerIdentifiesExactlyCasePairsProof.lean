/-
  THE PROOF OF 'Rows.FnLowerIdentifiesExactlyCasePairsSaid'. The frame was written by program (proof-skeleton.mjs) off the guide's own print for that function.
  The frame is the guide's template at this function's number and types; the walk is ours.
-/
import Derived.Test.Qxb6621683aRows
import Derived.Test.Qxb6621683aAsc
import Derived.WalkKit
import Derived.ProofKit
import Derived.OpenShut
import Derived.ShutString
namespace Go.Proofs.Qxb6621683a.fnLowerIdentifiesExactlyCasePairs
open Go.ChangeShapes Go.WideShapes Go.ChangeAt Go.RowKit
open Go.ChangeMaps (open_string shut_string)
open Go.Proofs.Qxb6621683a.Asc
set_option linter.unusedVariables false      -- a walk need not use every 'w<i>' (that an integer argument fits its kind)

theorem own : ownKnob Try.prog.godebug = none := by kernel_rfl

/-- the walk, at two bytes as numbers -/
theorem walk_nat (c d : Nat) (hc : c < 256) (hd : d < 256) (w : World) :
    Calls Try.prog 4 #[.int .u8 (c : Int), .int .u8 (d : Int)] w fun e w' => e = .returned (.bool true) ∧ Grown w w' := by
  have hl := low_lt c hc
  have e2 : ((low (low c) : Int) != (low c : Int)) = false := by rw [low_low]; simp
  have e1 : ((low c : Int) == (low d : Int)) = fp c d := by rw [← law c d hc hd]; exact cast_beq _ _
  by_cases hu : 65 ≤ c ∧ c ≤ 90
  · have hlo : low c = c + 32 := by unfold low; rw [if_pos hu]
    have e3 : ((low c : Int) != (c : Int)) = true := by rw [hlo]; simp; omega
    have e4 : ((low c : Int) != (c : Int) + 32) = false := by rw [hlo]; simp
    have hcc : (c : Int) ≤ 90 := by omega
    clear hu hlo
    go_enter Try.func4, Try.ntmps4
    go_wp2_with (first | (go_at_call 8; refine (zzlower_any _ (by assumption) _).mono ?_; rintro e w' ⟨rfl, rfl⟩) | (go_at_call 9; refine (pair_any _ _ (by assumption) (by assumption) _).mono ?_; rintro e w' ⟨rfl, rfl⟩))
    go_ret
    exact ⟨by simp, Grown.refl _⟩
  · have hlo : low c = c := by unfold low; rw [if_neg hu]
    have e3 : ((low c : Int) != (c : Int)) = false := by rw [hlo]; simp
    clear hu hlo
    go_enter Try.func4, Try.ntmps4
    go_wp2_with (first | (go_at_call 8; refine (zzlower_any _ (by assumption) _).mono ?_; rintro e w' ⟨rfl, rfl⟩) | (go_at_call 9; refine (pair_any _ _ (by assumption) (by assumption) _).mono ?_; rintro e w' ⟨rfl, rfl⟩))
    go_ret
    exact ⟨by simp, Grown.refl _⟩

/-! ### STEP 1: THE WALK: the Go text returns true. 'Grown w w'': the world has at most new blocks (Derived/RowKit3.lean). Part the cases AHEAD of 'go_enter' where a test parts the walk; take each callee by a contract of your own. -/
theorem walk (a0 : Int) (a1 : Int) (w0 : (Lit.int .u8 a0).wf = true) (w1 : (Lit.int .u8 a1).wf = true) (w : World) :
    Calls Try.prog 4 #[.int .u8 a0, .int .u8 a1] w fun e w' => e = .returned (.bool true) ∧ Grown w w' := by
  have b0 : 0 ≤ a0 ∧ a0 ≤ 255 := by simpa [Lit.wf, IntKind.min, IntKind.max, IntKind.signed, IntKind.bits] using w0
  have b1 : 0 ≤ a1 ∧ a1 ≤ 255 := by simpa [Lit.wf, IntKind.min, IntKind.max, IntKind.signed, IntKind.bits] using w1
  obtain ⟨c, rfl⟩ : ∃ c : Nat, a0 = (c : Int) := ⟨a0.toNat, by omega⟩
  obtain ⟨d, rfl⟩ : ∃ d : Nat, a1 = (d : Int) := ⟨a1.toNat, by omega⟩
  exact walk_nat c d (by omega) (by omega) w

/-! ### THE ROW's STEP: WRITTEN OUT: LEAVE IT -/
set_option maxRecDepth 100000 in
theorem lifted (os : Os) (started : os.Started) (H : Type) (enc : TypeId × Value → H) :
    ReturnsInHanded {} Try.checked os 4 .any (Rows.fnLowerIdentifiesExactlyCasePairsSpec.pre6 enc Try.prog Try.f4 Rows.fnLowerIdentifiesExactlyCasePairsRow.domain false) (Rows.fnLowerIdentifiesExactlyCasePairsSpec.post enc Try.prog Try.f4 false true false false) := by
  refine returnsInHanded_of_change (C := Try.checked) own started (by kernel_rfl) Try.func4
    (ChangeSpec.witness6 (enc := enc) (C := Try.checked) false ⟨#[], #[.int .u8 0, .int .u8 0], []⟩ 8 (by kernel_rfl) (by kernel_rfl) (by kernel_rfl) (by kernel_rfl)) ?_
  intro W base args ds gs before hval0 hW hcnd _
  have hval : ∀ (j : Nat) t v, Try.f4.params[j]? = some t → args[j]? = some v → Value.okWide Try.prog W .any base t v := hval0
  have hW' := hW
  obtain ⟨p, q, hA0, hV, rfl, hfz, hnd⟩ := hW
  have hA : DataW.TrodAll enc Try.prog W 0 (fun _ => true) true Try.f4.params.toList args.toList ds p := hA0
  rw [Try.params4] at hA hval
  obtain ⟨v0, vs0, d0, ds0, p0, q0, hargs, rfl, rfl, h0, r0⟩ := trodAll_cons hA
  obtain ⟨v1, vs1, d1, ds1, p1, q1, rfl, rfl, rfl, h1, r1⟩ := trodAll_cons r0
  obtain ⟨rfl, rfl, rfl⟩ := trodAll_nil r1
  obtain rfl : args = #[v0, v1] := by cases args; simp_all
  obtain ⟨rfl, rfl⟩ := trodVars_none hV
  obtain ⟨a0, rfl, rfl, rfl, w0⟩ := open_int Try.underlying5 (hval 0 5 v0 rfl rfl) h0
  obtain ⟨a1, rfl, rfl, rfl, w1⟩ := open_int Try.underlying5 (hval 1 5 v1 rfl rfl) h1
  clear hA0 hval0
  simp only [List.append_nil] at hW'
  refine (walk a0 a1 w0 w1 W).mono fun e W' ⟨he, hg⟩ => ?_
  subst he
  exact ⟨_, rfl, post_of_same (pa := []) (pv := []) hW' (fun _ _ _ => (trodAll_cons_mk (shut_bool Try.underlying4 _) trodAll_mk0)) (fun sp _ => (trodAll_cons_mk (shut_int Try.underlying5 w0) (trodAll_cons_mk (shut_int Try.underlying5 w1) trodAll_mk0))) (fun _ _ => rfl) rfl
    (hg.frame _) hg.2.1 (ok_one (by kernel_rfl) rfl (okWide_bool_mk Try.underlying4 _))⟩

theorem over : Rows.fnLowerIdentifiesExactlyCasePairsRow.holds Try.pinned (OpenSpec.ofChange Rows.fnLowerIdentifiesExactlyCasePairsSpec) :=
  OpenClaim.holds_of_wide 4 Try.f4 rfl rfl rfl rfl rfl rfl rfl ⟨rfl, rfl, rfl, rfl, rfl⟩ rfl rfl rfl rfl rfl (by kernel_rfl) Try.func4 (by kernel_rfl)
    (of_decide_eq_true (by kernel_rfl)) (by unfold Func.isWrapper; first | (rw [if_pos (by decide +kernel)]; kernel_rfl) | (rw [if_neg (by decide +kernel)]; exact ⟨rfl, rfl⟩))
    (fun os started H enc _ => lifted os started H enc)

/-- ████ THE STATEMENT ████ -/
theorem proved : Rows.FnLowerIdentifiesExactlyCasePairsSaid :=
  over
#print axioms proved
end Go.Proofs.Qxb6621683a.fnLowerIdentifiesExactlyCasePairs
