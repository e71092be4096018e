/- A []string that came in, opened once: what the walks ask of it. -/
import Derived.Test.Qxb6000535aArgs
import Derived.OpenShut
import Derived.SliceStrings
namespace Go.Proofs.Qxb6000535a
open Go.ChangeShapes Go.WideShapes Go.ChangeAt Go.RowKit

theorem strs_open {H : Type} {enc : TypeId × Value → H} {W : World} {a0 : Option Addr} {len cap : Nat} {d : DataW H} {p : List MemPlace}
    (h : DataW.Trod enc Try.prog W 0 (fun _ => true) true 22 (.slice a0 len cap) d p) : ∃ (b off : Nat) (ss : List ByteArray), ss.length = len ∧ Strs W a0 b off ss ∧ ∀ s ∈ ss, s.size ≤ maxLen := by
  obtain ⟨fuel, hf⟩ := h
  rcases open_strings Try.underlying22 Try.underlying9 (by kernel_rfl) hf with ⟨hcs, _⟩ | ⟨x, l, c, ss, hcs, _, hl, hm, hz, _, hcell, hws⟩
  · simp [Value.cells] at hcs
    obtain ⟨rfl, rfl, rfl⟩ := hcs
    exact ⟨0, 0, [], rfl, ⟨fun h => by simp at h, fun k h => by simp at h, by simp⟩, fun s h => by simp at h⟩
  · simp [Value.cells] at hcs
    obtain ⟨rfl, rfl, rfl⟩ := hcs
    have hz' : ss.length = cap := by simpa using hz
    have htl : (ss.take len).length = len := by rw [List.length_take]; omega
    have hmx : len ≤ 9223372036854775807 := by unfold maxLen at hm; omega
    have hmem : ∀ s ∈ ss.take len, s.size ≤ maxLen := fun s hs => hws s (List.mem_of_mem_take hs)
    by_cases h0 : len = 0
    · exact ⟨0, 0, ss.take len, htl, ⟨fun h => by omega, fun k h => by omega, by omega⟩, hmem⟩
    · obtain ⟨b, off, spot⟩ := x
      have hc := hcell 0 (by omega)
      have hspot : spot = none := by simpa [Addr.add] using World.cell?_spot hc
      subst hspot
      refine ⟨b, off, ss.take len, htl, ⟨fun _ => rfl, fun k hk => ?_, by omega⟩, hmem⟩
      have hk' : k < len := by omega
      have hck := hcell k (by omega)
      have e : (ss.take len).getD k ByteArray.empty = ss.getD k ByteArray.empty := by simp [List.getD, hk']
      rw [e]
      have ea : (⟨b, off, none⟩ : Addr).add k = ⟨b, off + k, none⟩ := by
        unfold Addr.add
        split
        · simp_all
        · rfl
      rw [ea] at hck
      exact hck
end Go.Proofs.Qxb6000535a
