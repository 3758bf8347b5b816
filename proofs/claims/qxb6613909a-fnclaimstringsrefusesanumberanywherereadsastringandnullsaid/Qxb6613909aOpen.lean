import Derived.Test.Qxb6613909aRows
import Derived.Test.Qxb6613909aMem
import Derived.ProofKit
import Derived.OpenShut
import Derived.SliceStrings
import Derived.ChangeMaps5
namespace Go.Proofs.Qxb6613909a
open Go Go.ChangeShapes Go.WideShapes Go.ChangeAt Go.RowKit
set_option linter.unusedVariables false

/-- A slice of strings that came in. -/
theorem strs_of {H : Type} {enc : TypeId × Value → H} {W : World} {t e : TypeId} (ht : Try.prog.underlying t = some (.slice e)) (he : Try.prog.underlying e = some .string) (hc : Try.prog.cellsOf e = 1)
    {a : Option Addr} {len cap : Nat} {d : DataW H} {p : List MemPlace} (h : DataW.Trod enc Try.prog W 0 (fun _ => true) true t (.slice a len cap) d p) :
    ∃ ss : List ByteArray, ss.length ≤ maxLen ∧ StrsAt W (.slice a len cap) ss ∧ (∀ s ∈ ss, s.size ≤ maxLen) ∧ ((Value.slice a len cap) = .slice none 0 0 ∨ ∃ b n c, (Value.slice a len cap) = .slice (some b) n c) := by
  obtain ⟨fuel, hf⟩ := h
  rcases open_strings ht he hc hf with ⟨hcs, _⟩ | ⟨x, l, c, zs, hcs, _, hl, hm, hz, _, hcell, hwz⟩
  · simp [Value.cells] at hcs
    obtain ⟨rfl, rfl, rfl⟩ := hcs
    exact ⟨[], Nat.zero_le _, StrsAt.none W _ _ rfl _ rfl, by simp, Or.inl rfl⟩
  · simp [Value.cells] at hcs
    obtain ⟨rfl, rfl, rfl⟩ := hcs
    have hz' : zs.length = cap := by simpa using hz
    have htl : (zs.take len).length = len := by simp; omega
    refine ⟨zs.take len, by omega, ⟨some x, cap, by rw [htl], by omega, fun h0 => ?_⟩, fun s hs => hwz s (List.mem_of_mem_take hs), Or.inr ⟨x, len, cap, rfl⟩⟩
    rw [htl] at h0
    obtain ⟨b, off, spot⟩ := x
    have hspot : spot = Option.none := by simpa [Addr.add] using World.cell?_spot (hcell 0 (by omega))
    subst hspot
    refine ⟨b, off, rfl, fun k s hk => ?_⟩
    have hkl := (List.getElem?_eq_some_iff.1 hk).1
    rw [htl] at hkl
    rw [List.getElem?_take, if_pos hkl] at hk
    have := hcell k (by omega)
    rw [Go.WideShapes.add_plain] at this
    rw [this]
    simp [List.getD, hk]

end Go.Proofs.Qxb6613909a
