import Derived.Test.Qxb6619661aLaws
import Derived.ChangeOld
import Derived.ShutString
/-! An array of 32 bytes among the arguments, by value: its cells are bytes. -/
namespace Go.Proofs.Qxb6619661a.Ks
open Go.ChangeShapes Go.WideShapes Go.ChangeAt Go.RowKit
open Extern.Stop (cell)

theorem cells22 : Try.prog.cellsOf 22 = 32 := by kernel_rfl
theorem cells5 : Try.prog.cellsOf 5 = 1 := by kernel_rfl

theorem list_of : ∀ l : List Value, (∀ v ∈ l, ∃ c : UInt8, v = cell c) → ∃ xs : List UInt8, l = xs.map cell
  | [], _ => ⟨[], rfl⟩
  | v :: l, h => by
    obtain ⟨xs, hx⟩ := list_of l (fun u hu => h u (List.mem_cons_of_mem _ hu))
    obtain ⟨c, rfl⟩ := h v List.mem_cons_self
    exact ⟨c :: xs, by rw [hx]; rfl⟩

theorem open_key {H : Type} {enc : TypeId × Value → H} {W : World} {base b0 : Nat} {sp : Nat → Bool} {held : Bool} {v : Value} {d : DataW H} {p : List MemPlace} (hv : Value.okWide Try.prog W .any base 22 v)
    (h : DataW.Trod enc Try.prog W b0 sp held 22 v d p) : ∃ xs : List UInt8, xs.length = 32 ∧ v = .agg (A xs) := by
  obtain ⟨cs, rfl, hsz, _⟩ : ∃ cs, v = .agg cs ∧ cs.size = Try.prog.cellsOf 22 ∧ Row.okWide Try.prog W .any base 22 cs := by
    simpa [Value.okWide, Try.underlying22] using hv
  rw [cells22] at hsz
  obtain ⟨fuel, hf⟩ := h
  obtain ⟨ys, m, _, _, _, hl, hy⟩ := DataW.trod_array Try.underlying22 hf
  obtain ⟨xs, hx⟩ := list_of cs.toList (by
    intro u hu
    obtain ⟨i, hi, rfl⟩ := List.mem_iff_getElem.1 hu
    have hi' : i < 32 := by simpa [hsz] using hi
    have h1 := hy i hi'
    rw [cells5, Nat.mul_one, List.getElem?_eq_getElem (by omega)] at h1
    obtain ⟨n, hn, _, hw⟩ := DataW.trod_int Try.underlying5 h1
    have e : (cs.toList.drop i).take 1 = [cs.toList[i]] := by rw [List.drop_eq_getElem_cons hi]; rfl
    have hn' : (cs.toList.drop i).take 1 = [.int .u8 n] := hn
    rw [e] at hn'
    have hu' : cs.toList[i] = .int .u8 n := by simpa using hn'
    have hb : 0 ≤ n ∧ n ≤ 255 := by simpa [Lit.wf, IntKind.min, IntKind.max, IntKind.signed, IntKind.bits] using hw
    refine ⟨UInt8.ofNat n.toNat, ?_⟩
    rw [hu']
    show Value.int .u8 n = Value.int .u8 ((UInt8.ofNat n.toNat).toNat : Int)
    congr 1
    rw [UInt8.toNat_ofNat_of_lt' (by show n.toNat < 256; omega)]
    omega)
  refine ⟨xs, ?_, ?_⟩
  · have := congrArg List.length hx
    simp at this
    omega
  · congr 1
    apply Array.toList_inj.1
    rw [hx]
    simp [A]
end Go.Proofs.Qxb6619661a.Ks
