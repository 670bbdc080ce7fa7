/-
  THE PROOF OF 'Rows.FnEqualFoldMatchesFoldPairsAtAnyCutSaid'. The frame was written by program (proof-skeleton.mjs) off the guide's own print for that function.
  The frame is the guide's template at this function's number and types; the walk is ours.
-/
import Derived.Test.Qxb6621683aRows
import Derived.Test.Qxb6621683aCut
import Derived.WalkKit
import Derived.ProofKit
import Derived.OpenShut
import Derived.ShutString
namespace Go.Proofs.Qxb6621683a.fnEqualFoldMatchesFoldPairsAtAnyCut
open Go.ChangeShapes Go.WideShapes Go.ChangeAt Go.RowKit
open Go.ChangeMaps (open_string shut_string)
open Go.Proofs.Qxb6621683a.Asc
set_option linter.unusedVariables false      -- a walk need not use every 'w<i>' (that an integer argument fits its kind)

theorem own : ownKnob Try.prog.godebug = none := by kernel_rfl

theorem grown_drewN {w w' : World} (h : ∃ n, w' = w.drewN n) : Grown w w' := by
  obtain ⟨n, rfl⟩ := h
  induction n with
  | zero => exact Grown.refl w
  | succ n ih => exact ih.drew

/-- a string beyond the law's own bound: it returns true at once -/
theorem walk_far (a b : ByteArray) (k : Int) (hA : a.size ≤ maxLen) (hB : b.size ≤ maxLen) (w : World) (h : 65536 < a.size ∨ 65536 < b.size) :
    Calls Try.prog 3 #[.string a, .string b, .int .i64 k] w fun e w' => e = .returned (.bool true) ∧ ∃ n, w' = w.drewN n := by
  by_cases s0 : 65536 < a.size
  · clear h
    go_enter Try.func3, Try.ntmps3
    go_wp2_with fail
    refine (bytes5 a b _ _ hA hB).mono ?_
    rintro e w' ⟨⟨r, rfl⟩, rfl⟩
    cases r
    all_goals
      go_wp2_with fail
      go_ret
      exact ⟨rfl, 0, rfl⟩
  · have s1 : 65536 < b.size := by omega
    clear h
    go_enter Try.func3, Try.ntmps3
    go_wp2_with fail
    refine (bytes5 a b _ _ hA hB).mono ?_
    rintro e w' ⟨⟨r, rfl⟩, rfl⟩
    cases r
    all_goals
      go_wp2_with fail
      go_ret
      exact ⟨rfl, 0, rfl⟩

theorem walk_any (a b : ByteArray) (k : Int) (hA : a.size ≤ maxLen) (hB : b.size ≤ maxLen) (w : World) :
    Calls Try.prog 3 #[.string a, .string b, .int .i64 k] w fun e w' => e = .returned (.bool true) ∧ ∃ n, w' = w.drewN n := by
  by_cases hf : 65536 < a.size ∨ 65536 < b.size
  · exact walk_far a b k hA hB w hf
  · have s0 : a.size ≤ 65536 := by omega
    have s1 : b.size ≤ 65536 := by omega
    have HG : Hid (∀ W, Calls Try.prog 6 #[.string a, .string b] W fun e w' => e = .returned (.bool (ef a b)) ∧ ∃ n, w' = W.drewN n) := fun W => fold_any a b W (by omega)
    have HM : Hid (∀ W, Calls Try.prog 7 #[.string a, .string b] W fun e w' => e = .returned (.bool (ef a b)) ∧ ∃ n, w' = W.drewN n) := fun W => model_any a b W (by omega)
    have HC : Hid (∀ W, Calls Try.prog 6 #[.string b, .string a] W fun e w' => e = .returned (.bool (ef a b)) ∧ ∃ n, w' = W.drewN n) := fun W => by
      have h := fold_any b a W (by omega)
      rw [ef_comm a b] at h
      exact h
    by_cases hk : k < 0 ∨ (a.size : Int) < k ∨ (b.size : Int) < k
    · exact walk_out a b k _ w hA hB s0 s1 HG HM HC hk
    · obtain ⟨m, rfl⟩ : ∃ m : Nat, k = (m : Int) := ⟨k.toNat, by omega⟩
      have ma : m ≤ a.size := by omega
      have mb : m ≤ b.size := by omega
      have hsp := ef_split a b m ma mb
      have z1 : (a.extract 0 m).size ≤ 2000000 := by simp; omega
      have z2 : (a.extract m a.size).size ≤ 2000000 := by simp; omega
      cases hp : ef (a.extract 0 m) (b.extract 0 m) with
      | false =>
        refine walk_no a b m _ w hA hB s0 s1 HG HM HC ma mb (by rw [← hsp, hp]; rfl) (fun W => ?_)
        have h := fold_any (a.extract 0 m) (b.extract 0 m) W z1
        rw [hp] at h
        exact h
      | true =>
        rw [hp, Bool.true_and] at hsp
        refine walk_yes a b m _ w hA hB s0 s1 HG HM HC ma mb (fun W => ?_) (fun W => ?_)
        · have h := fold_any (a.extract 0 m) (b.extract 0 m) W z1
          rw [hp] at h
          exact h
        · have h := fold_any (a.extract m a.size) (b.extract m b.size) W z2
          rw [hsp] at h
          exact h

/-! ### STEP 1: THE WALK: the Go text returns true. 'Grown w w'': the world has at most new blocks (Derived/RowKit3.lean). Part the cases AHEAD of 'go_enter' where a test parts the walk; take each callee by a contract of your own. -/
theorem walk (a0 : ByteArray) (a1 : ByteArray) (a2 : Int) (w0 : a0.size ≤ maxLen) (w1 : a1.size ≤ maxLen) (w2 : (Lit.int .i64 a2).wf = true) (w : World) :
    Calls Try.prog 3 #[.string a0, .string a1, .int .i64 a2] w fun e w' => e = .returned (.bool true) ∧ Grown w w' := by
  exact (walk_any a0 a1 a2 w0 w1 w).mono fun e w' ⟨he, hn⟩ => ⟨he, grown_drewN hn⟩

/-! ### THE ROW's STEP: WRITTEN OUT: LEAVE IT -/
set_option maxRecDepth 100000 in
theorem lifted (os : Os) (started : os.Started) (H : Type) (enc : TypeId × Value → H) :
    ReturnsInHanded {} Try.checked os 3 .any (Rows.fnEqualFoldMatchesFoldPairsAtAnyCutSpec.pre6 enc Try.prog Try.f3 Rows.fnEqualFoldMatchesFoldPairsAtAnyCutRow.domain false) (Rows.fnEqualFoldMatchesFoldPairsAtAnyCutSpec.post enc Try.prog Try.f3 false true false false) := by
  refine returnsInHanded_of_change (C := Try.checked) own started (by kernel_rfl) Try.func3
    (ChangeSpec.witness6 (enc := enc) (C := Try.checked) false ⟨#[], #[.string ByteArray.empty, .string ByteArray.empty, .int .i64 0], []⟩ 8 (by kernel_rfl) (by kernel_rfl) (by kernel_rfl) (by kernel_rfl)) ?_
  intro W base args ds gs before hval0 hW hcnd _
  have hval : ∀ (j : Nat) t v, Try.f3.params[j]? = some t → args[j]? = some v → Value.okWide Try.prog W .any base t v := hval0
  have hW' := hW
  obtain ⟨p, q, hA0, hV, rfl, hfz, hnd⟩ := hW
  have hA : DataW.TrodAll enc Try.prog W 0 (fun _ => true) true Try.f3.params.toList args.toList ds p := hA0
  rw [Try.params3] at hA hval
  obtain ⟨v0, vs0, d0, ds0, p0, q0, hargs, rfl, rfl, h0, r0⟩ := trodAll_cons hA
  obtain ⟨v1, vs1, d1, ds1, p1, q1, rfl, rfl, rfl, h1, r1⟩ := trodAll_cons r0
  obtain ⟨v2, vs2, d2, ds2, p2, q2, rfl, rfl, rfl, h2, r2⟩ := trodAll_cons r1
  obtain ⟨rfl, rfl, rfl⟩ := trodAll_nil r2
  obtain rfl : args = #[v0, v1, v2] := by cases args; simp_all
  obtain ⟨rfl, rfl⟩ := trodVars_none hV
  obtain ⟨a0, rfl, rfl, rfl, w0⟩ := open_string Try.underlying9 (hval 0 9 v0 rfl rfl) h0
  obtain ⟨a1, rfl, rfl, rfl, w1⟩ := open_string Try.underlying9 (hval 1 9 v1 rfl rfl) h1
  obtain ⟨a2, rfl, rfl, rfl, w2⟩ := open_int Try.underlying3 (hval 2 3 v2 rfl rfl) h2
  clear hA0 hval0
  simp only [List.append_nil] at hW'
  refine (walk a0 a1 a2 w0 w1 w2 W).mono fun e W' ⟨he, hg⟩ => ?_
  subst he
  exact ⟨_, rfl, post_of_same (pa := []) (pv := []) hW' (fun _ _ _ => (trodAll_cons_mk (shut_bool Try.underlying4 _) trodAll_mk0)) (fun sp _ => (trodAll_cons_mk (shut_string Try.underlying9 w0) (trodAll_cons_mk (shut_string Try.underlying9 w1) (trodAll_cons_mk (shut_int Try.underlying3 w2) trodAll_mk0)))) (fun _ _ => rfl) rfl
    (hg.frame _) hg.2.1 (ok_one (by kernel_rfl) rfl (okWide_bool_mk Try.underlying4 _))⟩

theorem over : Rows.fnEqualFoldMatchesFoldPairsAtAnyCutRow.holds Try.pinned (OpenSpec.ofChange Rows.fnEqualFoldMatchesFoldPairsAtAnyCutSpec) :=
  OpenClaim.holds_of_wide 3 Try.f3 rfl rfl rfl rfl rfl rfl rfl ⟨rfl, rfl, rfl, rfl, rfl⟩ rfl rfl rfl rfl rfl (by kernel_rfl) Try.func3 (by kernel_rfl)
    (of_decide_eq_true (by kernel_rfl)) (by unfold Func.isWrapper; first | (rw [if_pos (by decide +kernel)]; kernel_rfl) | (rw [if_neg (by decide +kernel)]; exact ⟨rfl, rfl⟩))
    (fun os started H enc _ => lifted os started H enc)

/-- ████ THE STATEMENT ████ -/
theorem proved : Rows.FnEqualFoldMatchesFoldPairsAtAnyCutSaid :=
  over
#print axioms proved
end Go.Proofs.Qxb6621683a.fnEqualFoldMatchesFoldPairsAtAnyCut
