/-
  FnMatchesOperatorSisters: zzBuildMap (10): the map that the pairs write in order.
-/
import Derived.Test.Qxb6619294aSize
import Derived.Maps.OwnSet
import Derived.Maps.StringElems
import Derived.RegionTactic
namespace Go.Proofs.Qxb6619294a.Sel
open Go.ChangeShapes Go.WideShapes Go.ChangeAt Go.RowKit Go.Maps

theorem law9 : Keyed Try.prog 9 := string_keyed Try.underlying9
theorem zero9 (w : World) : (zeroValue 9).run Try.prog w = .ok (.string { data := #[] }) w := by kernel_rfl
theorem run_makeMap_hint (n : Nat) (w : World) : (Instr.makeMap 26 (some (.int .i64 (n : Int)))).run Try.prog w = .ok (.map (some w.heap.size)) (w.alloc (.map #[] 0)) := by
  simp [Instr.makeMap, run_underlying Try.underlying26, asInt, asIntOf, Result.andThen]

/-- the datum D of a map[string]string reads, key by key, as L says -/
def Reads (D : DataW Unit) (L : List UInt8 → Option ByteArray) : Prop :=
  IsMap D ∧ ∀ l, Maps.has D (.string l) = (L l).isSome ∧ ∀ v, L l = some v → ∀ zd, D.atKey (.string l) zd = .lit (.string v.data.toList)

theorem Reads.empty : Reads (.map []) (fun _ => none) :=
  ⟨isMap_empty, fun _ => ⟨rfl, fun v h => by cases h⟩⟩

theorem Reads.put {D : DataW Unit} {L : List UInt8 → Option ByteArray} (h : Reads D L) (k v : ByteArray) :
    Reads (D.put (.string k.data.toList) (.lit (.string v.data.toList))) (fun l => if k.toList == l then some v else L l) := by
  obtain ⟨hm, hr⟩ := h
  refine ⟨hm.put _ _, fun l => ?_⟩
  by_cases e : k.data.toList = l
  · subst e
    have ek : (k.toList == k.data.toList) = true := by rw [ByteArray.toList_eq]; simp
    refine ⟨by rw [has_put_same hm (k := .string k.data.toList) trivial]; simp [ek], fun u hu zd => ?_⟩
    simp [ek] at hu
    subst hu
    exact atKey_put_same hm (k := .string k.data.toList) trivial _ _
  · have ek : (k.toList == l) = false := by rw [ByteArray.toList_eq]; simpa using e
    have hne : (Lit.string l) ≠ (Lit.string k.data.toList) := fun h => e (by injection h with h; exact h.symm)
    refine ⟨by rw [has_put_other hne, (hr l).1]; simp [ek], fun u hu zd => ?_⟩
    simp [ek] at hu
    rw [atKey_put_other hne]
    exact (hr l).2 u hu zd

theorem Reads.congr {D : DataW Unit} {L L' : List UInt8 → Option ByteArray} (h : Reads D L) (e : ∀ l, L' l = L l) : Reads D L' := by
  have : L' = L := funext e
  rw [this]; exact h

theorem Reads.step {D : DataW Unit} {K V : Nat → ByteArray} {k : Nat} (h : Reads D (fun l => lookN K V l k)) :
    Reads (D.put (.string (K k).data.toList) (.lit (.string (V k).data.toList))) (fun l => lookN K V l (k + 1)) :=
  (h.put (K k) (V k)).congr (fun _ => rfl)

theorem build_none (a a' : Option Addr) (cap len' cap' : Nat) (w : World) :
    Calls Try.prog 10 #[.slice a 0 cap, .slice a' len' cap'] w fun e w' => e = .returned (.map (some w.heap.size)) ∧ w'.ownsMap Try.prog 9 (plainElem (H := Unit) Try.prog 9) w.heap.size 0 (.map []) ∧ Below w.heap.size w w' := by
  have hmm : ∀ w, (Instr.makeMap 26 (some (.int .i64 0))).run Try.prog w = .ok (.map (some w.heap.size)) (w.alloc (.map #[] 0)) := run_makeMap_hint 0
  go_enter Try.func10, Try.ntmps10
  go_wp2
  refine wp_loop_rounds 1 ?_
  rw [rounds_succ]
  go_wp2
  go_ret
  exact ⟨rfl, World.ownsMap_made _ _ _ _, (Below.refl _ _).alloc (Nat.le_refl _) _⟩

set_option maxHeartbeats 400000 in
theorem build_some (b off b' off' len cap cap' : Nat) (K V : Nat → ByteArray) (w : World) (hl : len ≤ 8796093022208) (hb : b < w.heap.size) (hb' : b' < w.heap.size)
    (hc : ∀ j, j < len → w.cell? ⟨b, off + j, none⟩ = some (.string (K j))) (hc' : ∀ j, j < len → w.cell? ⟨b', off' + j, none⟩ = some (.string (V j)))
    (hk : ∀ j, j < len → (K j).size ≤ maxLen) (hv : ∀ j, j < len → (V j).size ≤ maxLen) :
    Calls Try.prog 10 #[.slice (some ⟨b, off, none⟩) len cap, .slice (some ⟨b', off', none⟩) len cap'] w fun e w' => e = .returned (.map (some w.heap.size)) ∧ (∃ D, w'.ownsMap Try.prog 9 (plainElem (H := Unit) Try.prog 9) w.heap.size len D ∧ Reads D (fun l => lookN K V l len)) ∧ Below w.heap.size w w' := by
  have HC : Hid (∀ j, j < len → w.cell? ⟨b, off + j, none⟩ = some (.string (K j))) := hc
  have HC' : Hid (∀ j, j < len → w.cell? ⟨b', off' + j, none⟩ = some (.string (V j))) := hc'
  have HK : Hid (∀ j, j < len → (K j).size ≤ maxLen) := hk
  have HV : Hid (∀ j, j < len → (V j).size ≤ maxLen) := hv
  clear hc hc' hk hv
  have hmm := run_makeMap_hint len
  go_enter Try.func10, Try.ntmps10
  go_wp2
  go_loopw [6] (fun i wr => ∃ (k : Nat) (D : DataW Unit), k ≤ len ∧ i = .int .i64 k ∧ wr.ownsMap Try.prog 9 (plainElem (H := Unit) Try.prog 9) w.heap.size k D ∧ Reads D (fun l => lookN K V l k) ∧ Below w.heap.size w wr)
    (fun i _ => len - (intOf i).toNat)
  case atStart => exact ⟨0, _, Nat.zero_le _, rfl, World.ownsMap_made _ _ _ _, Reads.empty, (Below.refl _ _).alloc (Nat.le_refl _) _⟩
  case round =>
    obtain ⟨k, D, hk, rfl, hown, hR, hnx⟩ := hrel
    by_cases hlt : k < len
    · have hcx := (hnx.cell (p := ⟨b, off + k, none⟩) hb).trans (HC.out k hlt)
      have hcy := (hnx.cell (p := ⟨b', off' + k, none⟩) hb').trans (HC'.out k hlt)
      have hkey : keyOf Try.prog 9 (.string (K k)) = some (.string (K k).data.toList) := Go.WideMaps.keyOf_string_mk Try.underlying9 (HK.out k hlt)
      have hval := plainElem_string (H := Unit) Try.underlying9 (HV.out k hlt)
      have HR : Hid (Reads (D.put (.string (K k).data.toList) (.lit (.string (V k).data.toList))) (fun l => lookN K V l (k + 1))) := hR.step
      obtain ⟨w1, hrun, hown1, hgrow1⟩ := hown.drew.update law9 Try.underlying26 (by unfold maxLen; omega) hkey hval
      have HO : Hid (w1.ownsMap Try.prog 9 (plainElem (H := Unit) Try.prog 9) w.heap.size (k + 1) (D.put (.string (K k).data.toList) (.lit (.string (V k).data.toList)))) := hown1
      have HB : Hid (Below w.heap.size w w1) := hnx.drew.grown hgrow1 hnx.size (fun j hj => by cases hj; exact Nat.le_refl _)
      clear hown1 hgrow1 hkey hval hR hown hnx HC HC' HK HV
      generalize K k = s at *
      generalize V k = t at *
      go_wp2
      go_region
      go_wp2
      go_roundw
      case rel => exact ⟨k + 1, _, by omega, by go_num, HO.out, HR.out, HB.out⟩
      case measure => simp [intOf]; omega
    · go_wp2
      go_ret
      have e : k = len := by omega
      subst e
      exact ⟨rfl, ⟨D, hown, hR⟩, hnx⟩

theorem build_any (a a' : Option Addr) (len cap cap' : Nat) (K V : Nat → ByteArray) (w : World) (h : StrSl w a len K) (h' : StrSl w a' len V) :
    Calls Try.prog 10 #[.slice a len cap, .slice a' len cap'] w fun e w' => e = .returned (.map (some w.heap.size)) ∧ (∃ D, w'.ownsMap Try.prog 9 (plainElem (H := Unit) Try.prog 9) w.heap.size len D ∧ Reads D (fun l => lookN K V l len)) ∧ Below w.heap.size w w' := by
  obtain ⟨hl, h2, hk⟩ := h
  obtain ⟨_, h2', hv⟩ := h'
  by_cases e0 : len = 0
  · subst e0
    refine (build_none a a' cap 0 cap' w).mono ?_
    rintro e w' ⟨he, ho, hb⟩
    exact ⟨he, ⟨_, ho, Reads.empty⟩, hb⟩
  · rcases h2 with e | ⟨b, off, rfl, hb, hc⟩
    · exact absurd e e0
    · rcases h2' with e | ⟨b', off', rfl, hb', hc'⟩
      · exact absurd e e0
      · exact build_some b off b' off' len cap cap' K V w hl hb hb' hc hc' hk hv

end Go.Proofs.Qxb6619294a.Sel
