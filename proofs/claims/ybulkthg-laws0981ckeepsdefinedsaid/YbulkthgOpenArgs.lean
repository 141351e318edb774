import Derived.Test.YbulkthgDistinct
import Derived.ProofKit
import Derived.OpenShut
import Derived.ShutString
import Derived.ChangeOld
import Derived.SliceStrings
namespace Go.Proofs.Ybulkthg
open Go.ChangeShapes Go.WideShapes Go.ChangeAt Go.RowKit

/-- a slice of strings that came in -/
theorem open_seenS {H : Type} {enc : TypeId × Value → H} {P : Program} {w : World} {base : Nat} {spare : Nat → Bool} {held : Bool} {r : Reach} {b0 : Nat} {t e : TypeId} {v : Value} {d : DataW H} {p : List MemPlace}
    (ht : P.underlying t = some (.slice e)) (he : P.underlying e = some .string) (hce : P.cellsOf e = 1) (hv : Value.okWide P w r b0 t v) (h : DataW.Trod enc P w base spare held t v d p) :
    ∃ (a : Option Addr) (len cap : Nat) (ns : Nat → ByteArray), v = .slice a len cap ∧ len ≤ maxLen ∧ (∀ i, i < len → (ns i).size ≤ maxLen) ∧ SeenS w a len ns := by
  obtain ⟨a, len, cap, rfl⟩ := okWide_slice ht hv
  obtain ⟨fuel, hf⟩ := h
  rcases open_strings ht he hce hf with ⟨hcs, _⟩ | ⟨x, l, c, ss, hcs, _, hl, hm, hz, _, hcell, hws⟩
  · simp [Value.cells] at hcs
    obtain ⟨rfl, rfl, rfl⟩ := hcs
    exact ⟨none, 0, 0, fun _ => ByteArray.empty, rfl, Nat.zero_le _, fun i hi => by omega, fun i hi => by omega⟩
  · simp [Value.cells] at hcs
    obtain ⟨rfl, rfl, rfl⟩ := hcs
    have hz' : len ≤ ss.length := by rw [hz]; split <;> omega
    refine ⟨some x, len, cap, fun i => ss.getD i ByteArray.empty, rfl, Nat.le_trans hl hm, fun i hi => ?_, fun i hi => ?_⟩
    · refine hws _ ?_
      have hi' : i < ss.length := by omega
      simp [List.getD, hi']
    · have h0 := hcell 0 (by omega)
      obtain ⟨b, off, spot⟩ := x
      have hspot : spot = none := by simpa [Addr.add] using World.cell?_spot h0
      subst hspot
      exact ⟨b, off, rfl, by rw [← add_plain]; exact hcell i (by omega)⟩
end Go.Proofs.Ybulkthg
