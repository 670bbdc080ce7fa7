/-
  THE PROOF OF 'Rows.FnMatchesOperatorSistersSaid': the row round the walk (Qxb6619294aSis.lean). The frame is the guide's own way (a slice of strings by 'open_strings', 'Below.trod').
-/
import Derived.Test.Qxb6619294aSis
import Derived.WalkKit
import Derived.ProofKit
import Derived.OpenShut
import Derived.ShutString
import Derived.ChangeOld
import Derived.Below
import Derived.SizedLaws
import Derived.SliceStrings
namespace Go.Proofs.Qxb6619294a.fnMatchesOperatorSisters
open Go.ChangeShapes Go.WideShapes Go.ChangeAt Go.RowKit
open Go.ChangeMaps (open_string shut_string)
open Go.Proofs.Qxb6619294a.Sel

theorem own : ownKnob Try.prog.godebug = none := by kernel_rfl
theorem laidOut : laidOutB Try.prog = true := by kernel_rfl
theorem cells9 : Try.prog.cellsOf 9 = 1 := by kernel_rfl
theorem bytes9 : Try.prog.bytesOf 9 = 16 := by kernel_rfl

theorem walk (a0 a1 a3 : Option Addr) (l0 c0 l1 c1 l3 c3 : Nat) (K V S : Nat → ByteArray) (x v : ByteArray) (w : World) (h0 : StrSl w a0 l0 K) (h1 : StrSl w a1 l1 V) (h3 : StrSl w a3 l3 S) (hx : x.size ≤ maxLen) (hv : v.size ≤ maxLen) :
    Calls Try.prog 4 #[.slice a0 l0 c0, .slice a1 l1 c1, .string x, .slice a3 l3 c3, .string v] w fun e w' => e = .returned (.bool true) ∧ Below w.heap.size w w' := by
  by_cases e : l1 = l0
  · subst e
    exact sis_eq _ _ _ _ a0 a1 a3 l1 c0 c1 l3 c3 K V S x v w h0 h1 h3 hx hv rfl rfl rfl rfl
  · exact sis_ne a0 a1 a3 l0 c0 l1 c1 l3 c3 K V S x v w h0 h1 h3 hx hv e

/-- what 'open_strings' gives of a slice that is not nil, in the walk's words -/
theorem strSl_mk {W : World} {x : Addr} {len cap : Nat} {ss : List ByteArray} {p : List MemPlace} (hreach : len * 16 ≤ 140737488351232) (hl : len ≤ cap) (hz : ss.length = cap) (hp : p = MemPlace.row x ss.length) (hlt : ∀ y ∈ p, y.block < W.heap.size)
    (hcell : ∀ i, i < ss.length → W.cell? (x.add i) = some (.string (ss.getD i ByteArray.empty))) (hws : ∀ s ∈ ss, s.size ≤ maxLen) : StrSl W (some x) len (fun i => ss.getD i ByteArray.empty) := by
  refine ⟨by omega, ?_, ?_⟩
  · by_cases h0 : len = 0
    · exact Or.inl h0
    · obtain ⟨b, off, spot⟩ := x
      have hspot : spot = none := by simpa [Addr.add] using World.cell?_spot (hcell 0 (by omega))
      subst hspot
      have hbW : b < W.heap.size := hlt (.cell b off) (by rw [hp]; exact MemPlace.mem_row.2 ⟨0, by omega, by simp⟩)
      exact Or.inr ⟨b, off, rfl, hbW, fun j hj => by rw [← add_plain]; exact hcell j (by omega)⟩
  · intro j hj
    have hk : j < ss.length := by omega
    show (ss.getD j ByteArray.empty).size ≤ maxLen
    rw [List.getD, List.getElem?_eq_getElem hk]
    exact hws _ (List.getElem_mem hk)

set_option maxRecDepth 100000 in
theorem lifted (os : Os) (started : os.Started) (H : Type) (enc : TypeId × Value → H) :
    ReturnsInHanded {} Try.checked os 4 .any (Rows.fnMatchesOperatorSistersSpec.pre6 enc Try.prog Try.f4 Rows.fnMatchesOperatorSistersRow.domain false) (Rows.fnMatchesOperatorSistersSpec.post enc Try.prog Try.f4 false true false false) := by
  refine returnsInHanded_of_change_sized (C := Try.checked) own started (by kernel_rfl) Try.func4
    (ChangeSpec.witness6 (enc := enc) (C := Try.checked) false ⟨#[], #[.slice none 0 0, .slice none 0 0, .string ByteArray.empty, .slice none 0 0, .string ByteArray.empty], []⟩ 8 (by kernel_rfl) (by kernel_rfl) (by kernel_rfl) (by kernel_rfl)) ?_
  intro W base args ds gs before hval0 hW _ hsz0 _
  have hsz : (DataW.weightsEach Try.prog (Try.f4.params.toList ++ Rows.fnMatchesOperatorSistersSpec.plain.varTypes Try.prog) (ds ++ gs)).all (· ≤ reachBytes) = true := hsz0
  clear hsz0
  have hval : ∀ (j : Nat) t v, Try.f4.params[j]? = some t → args[j]? = some v → Value.okWide Try.prog W .any base t v := hval0
  have hW' := hW
  obtain ⟨p, q, hA0, hV, rfl, hfz, hnd⟩ := hW
  have hA : DataW.TrodAll enc Try.prog W 0 (fun _ => true) true Try.f4.params.toList args.toList ds p := hA0
  rw [Try.params4] at hA hval hsz
  obtain ⟨v0, vs0, d0, ds0, p0, q0, hargs, rfl, rfl, h0, r0⟩ := trodAll_cons hA
  obtain ⟨v1, vs1, d1, ds1, p1, q1, rfl, rfl, rfl, h1, r1⟩ := trodAll_cons r0
  obtain ⟨v2, vs2, d2, ds2, p2, q2, rfl, rfl, rfl, h2, r2⟩ := trodAll_cons r1
  obtain ⟨v3, vs3, d3, ds3, p3, q3, rfl, rfl, rfl, h3, r3⟩ := trodAll_cons r2
  obtain ⟨v4, vs4, d4, ds4, p4, q4, rfl, rfl, rfl, h4, r4⟩ := trodAll_cons r3
  obtain ⟨rfl, rfl, rfl⟩ := trodAll_nil r4
  obtain rfl : args = #[v0, v1, v2, v3, v4] := by cases args; simp_all
  obtain ⟨rfl, rfl⟩ := trodVars_none hV
  obtain ⟨a0, len0, cap0, rfl⟩ := okWide_slice Try.underlying22 (hval 0 22 v0 rfl rfl)
  have k0 := h0
  have lt0 : ∀ x ∈ p0, x.block < W.heap.size := by obtain ⟨m, hm⟩ := k0; exact DataW.trod_lt m _ _ _ hm
  obtain ⟨S0, w0⟩ : ∃ S, StrSl W a0 len0 S := by
    obtain ⟨fuel, hf⟩ := h0
    rcases open_strings Try.underlying22 Try.underlying9 cells9 hf with ⟨hcs, _⟩ | ⟨x, l, c, ss, hcs, _, hl, hm, hz, hx, hcell, hws⟩
    · simp [Value.cells] at hcs
      obtain ⟨rfl, rfl, rfl⟩ := hcs
      exact ⟨fun _ => ByteArray.empty, by decide, Or.inl rfl, fun i hi => absurd hi (Nat.not_lt_zero _)⟩
    · simp [Value.cells] at hcs
      obtain ⟨rfl, rfl, rfl⟩ := hcs
      simp only [Prod.mk.injEq] at hx
      obtain ⟨hd, hp⟩ := hx
      simp only [if_true] at hz
      have hreach : len0 * 16 ≤ 140737488351232 := by
        have := sized_slice hsz (j := 0) (t := 22) (e := 9) rfl (by rw [hd]; rfl) Try.underlying22
        rw [bytes9] at this
        simp only [strs, List.length_map, List.length_take, List.length_drop, reachBytes] at this
        omega
      exact ⟨fun i => ss.getD i ByteArray.empty, strSl_mk hreach hl hz hp lt0 hcell hws⟩
  obtain ⟨a1, len1, cap1, rfl⟩ := okWide_slice Try.underlying22 (hval 1 22 v1 rfl rfl)
  have k1 := h1
  have lt1 : ∀ x ∈ p1, x.block < W.heap.size := by obtain ⟨m, hm⟩ := k1; exact DataW.trod_lt m _ _ _ hm
  obtain ⟨S1, w1⟩ : ∃ S, StrSl W a1 len1 S := by
    obtain ⟨fuel, hf⟩ := h1
    rcases open_strings Try.underlying22 Try.underlying9 cells9 hf with ⟨hcs, _⟩ | ⟨x, l, c, ss, hcs, _, hl, hm, hz, hx, hcell, hws⟩
    · simp [Value.cells] at hcs
      obtain ⟨rfl, rfl, rfl⟩ := hcs
      exact ⟨fun _ => ByteArray.empty, by decide, Or.inl rfl, fun i hi => absurd hi (Nat.not_lt_zero _)⟩
    · simp [Value.cells] at hcs
      obtain ⟨rfl, rfl, rfl⟩ := hcs
      simp only [Prod.mk.injEq] at hx
      obtain ⟨hd, hp⟩ := hx
      simp only [if_true] at hz
      have hreach : len1 * 16 ≤ 140737488351232 := by
        have := sized_slice hsz (j := 1) (t := 22) (e := 9) rfl (by rw [hd]; rfl) Try.underlying22
        rw [bytes9] at this
        simp only [strs, List.length_map, List.length_take, List.length_drop, reachBytes] at this
        omega
      exact ⟨fun i => ss.getD i ByteArray.empty, strSl_mk hreach hl hz hp lt1 hcell hws⟩
  obtain ⟨a2, rfl, rfl, rfl, w2⟩ := open_string Try.underlying9 (hval 2 9 v2 rfl rfl) h2
  obtain ⟨a3, len3, cap3, rfl⟩ := okWide_slice Try.underlying22 (hval 3 22 v3 rfl rfl)
  have k3 := h3
  have lt3 : ∀ x ∈ p3, x.block < W.heap.size := by obtain ⟨m, hm⟩ := k3; exact DataW.trod_lt m _ _ _ hm
  obtain ⟨S3, w3⟩ : ∃ S, StrSl W a3 len3 S := by
    obtain ⟨fuel, hf⟩ := h3
    rcases open_strings Try.underlying22 Try.underlying9 cells9 hf with ⟨hcs, _⟩ | ⟨x, l, c, ss, hcs, _, hl, hm, hz, hx, hcell, hws⟩
    · simp [Value.cells] at hcs
      obtain ⟨rfl, rfl, rfl⟩ := hcs
      exact ⟨fun _ => ByteArray.empty, by decide, Or.inl rfl, fun i hi => absurd hi (Nat.not_lt_zero _)⟩
    · simp [Value.cells] at hcs
      obtain ⟨rfl, rfl, rfl⟩ := hcs
      simp only [Prod.mk.injEq] at hx
      obtain ⟨hd, hp⟩ := hx
      simp only [if_true] at hz
      have hreach : len3 * 16 ≤ 140737488351232 := by
        have := sized_slice hsz (j := 3) (t := 22) (e := 9) rfl (by rw [hd]; rfl) Try.underlying22
        rw [bytes9] at this
        simp only [strs, List.length_map, List.length_take, List.length_drop, reachBytes] at this
        omega
      exact ⟨fun i => ss.getD i ByteArray.empty, strSl_mk hreach hl hz hp lt3 hcell hws⟩
  obtain ⟨a4, rfl, rfl, rfl, w4⟩ := open_string Try.underlying9 (hval 4 9 v4 rfl rfl) h4
  clear hA0 hval0
  refine (walk a0 a1 a3 len0 cap0 len1 cap1 len3 cap3 S0 S1 S3 a2 a4 W w0 w1 w3 w2 w4).mono fun e W' ⟨he, bel⟩ => ?_
  subst he
  exact ⟨_, rfl, _, _, _, [], _, [], hW', trodAll_mk1 (shut_bool Try.underlying4 _), (trodAll_cons_mk (Below.trod laidOut (by kernel_rfl) (of_decide_eq_true (by kernel_rfl)) k0 bel lt0) (trodAll_cons_mk (Below.trod laidOut (by kernel_rfl) (of_decide_eq_true (by kernel_rfl)) k1 bel lt1) (trodAll_cons_mk (shut_string Try.underlying9 w2) (trodAll_cons_mk (Below.trod laidOut (by kernel_rfl) (of_decide_eq_true (by kernel_rfl)) k3 bel lt3) (trodAll_cons_mk (shut_string Try.underlying9 w4) trodAll_mk0))))), rfl, bel.frame _, fun h => by cases h⟩

theorem over : Rows.fnMatchesOperatorSistersRow.holds Try.pinned (OpenSpec.ofChange Rows.fnMatchesOperatorSistersSpec) :=
  OpenClaim.holds_of_wide 4 Try.f4 rfl rfl rfl rfl rfl rfl rfl ⟨rfl, rfl, rfl, rfl, rfl⟩ rfl rfl rfl rfl rfl (by kernel_rfl) Try.func4 (by kernel_rfl)
    (of_decide_eq_true (by kernel_rfl)) (by unfold Func.isWrapper; first | (rw [if_pos (by decide +kernel)]; kernel_rfl) | (rw [if_neg (by decide +kernel)]; exact ⟨rfl, rfl⟩))
    (fun os started H enc _ => lifted os started H enc)

/-- THE STATEMENT -/
theorem proved : Rows.FnMatchesOperatorSistersSaid :=
  over
#print axioms proved
end Go.Proofs.Qxb6619294a.fnMatchesOperatorSisters
