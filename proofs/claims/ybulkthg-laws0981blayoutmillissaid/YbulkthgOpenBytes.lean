import Derived.Test.YbulkthgOwn
import Derived.ProofKit
import Derived.OpenShut
import Derived.ShutString
import Derived.ChangeOld
namespace Go.Proofs.Ybulkthg
open Go.ChangeShapes Go.WideShapes Go.ChangeAt Go.RowKit

/-- an array of integers that came in by value -/
theorem open_array_ints {H : Type} {enc : TypeId × Value → H} {P : Program} {w : World} {base : Nat} {spare : Nat → Bool} {held : Bool} {r : Reach} {b0 : Nat} {t e : TypeId} {n : Nat} {k : IntKind} {v : Value} {d : DataW H} {p : List MemPlace}
    (ht : P.underlying t = some (.array n e)) (he : P.underlying e = some (.int k)) (hce : P.cellsOf e = 1) (hct : P.cellsOf t = n) (hv : Value.okWide P w r b0 t v) (h : DataW.Trod enc P w base spare held t v d p) :
    ∃ (cs : Array Value) (nz : Nat → Int), v = .agg cs ∧ cs.size = n ∧ ∀ i, i < n → cs[i]? = some (.int k (nz i)) := by
  simp only [Value.okWide, ht] at hv
  obtain ⟨cs, rfl, hsz, _⟩ := hv
  obtain ⟨fuel, hf⟩ := h
  obtain ⟨xs, m, _, _, _, hxl, hx⟩ := DataW.trod_array ht hf
  rw [hct] at hsz
  have hall : ∀ i, i < n → ∃ z : Int, cs[i]? = some (.int k z) := by
    intro i hi
    have h1 := hx i hi
    rw [hce, Nat.mul_one, List.getElem?_eq_getElem (by omega)] at h1
    obtain ⟨a, hcs, _, _⟩ := DataW.trod_int he h1
    have h2 : (List.take 1 (List.drop i (Value.agg cs).cells.toList))[0]? = some (.int k a) := by rw [hcs]; rfl
    rw [List.getElem?_take_of_lt (by omega), List.getElem?_drop, Nat.add_zero] at h2
    exact ⟨a, by simpa [Value.cells] using h2⟩
  refine ⟨cs, fun i => if hi : i < n then Classical.choose (hall i hi) else 0, rfl, hsz, fun i hi => ?_⟩
  simp only [dif_pos hi]
  exact Classical.choose_spec (hall i hi)

/-- a slice of integers that came in -/
theorem open_seen {H : Type} {enc : TypeId × Value → H} {P : Program} {w : World} {base : Nat} {spare : Nat → Bool} {held : Bool} {r : Reach} {b0 : Nat} {t e : TypeId} {k : IntKind} {v : Value} {d : DataW H} {p : List MemPlace}
    (ht : P.underlying t = some (.slice e)) (he : P.underlying e = some (.int k)) (hce : P.cellsOf e = 1) (hv : Value.okWide P w r b0 t v) (h : DataW.Trod enc P w base spare held t v d p) :
    ∃ (a : Option Addr) (len cap : Nat) (z : Nat → Int), v = .slice a len cap ∧ len ≤ maxLen ∧ Seen k w a len z := by
  obtain ⟨a, len, cap, rfl⟩ := okWide_slice ht hv
  obtain ⟨fuel, hf⟩ := h
  rcases open_ints ht he hce hf with ⟨hcs, _⟩ | ⟨x, l, c, zs, hcs, _, hl, hm, hz, _, hcell, hwz⟩
  · simp [Value.cells] at hcs
    obtain ⟨rfl, rfl, rfl⟩ := hcs
    exact ⟨none, 0, 0, fun _ => 0, rfl, Nat.zero_le _, fun i hi => by omega⟩
  · simp [Value.cells] at hcs
    obtain ⟨rfl, rfl, rfl⟩ := hcs
    refine ⟨some x, len, cap, fun i => zs.getD i 0, rfl, Nat.le_trans hl hm, fun i hi => ?_⟩
    have hz' : len ≤ zs.length := by rw [hz]; split <;> omega
    obtain ⟨b, off, rfl, h⟩ := ints_at hcell (by omega)
    exact ⟨b, off, rfl, h i (by omega)⟩

theorem array8 {cs : Array Value} {nz : Nat → Int} (h : cs.size = 8) (hc : ∀ i, i < 8 → cs[i]? = some (.int .u8 (nz i))) :
    cs = #[.int .u8 (nz 0), .int .u8 (nz 1), .int .u8 (nz 2), .int .u8 (nz 3), .int .u8 (nz 4), .int .u8 (nz 5), .int .u8 (nz 6), .int .u8 (nz 7)] := by
  apply Array.ext_getElem?
  intro i
  match i with
  | 0 => exact hc 0 (by omega)
  | 1 => exact hc 1 (by omega)
  | 2 => exact hc 2 (by omega)
  | 3 => exact hc 3 (by omega)
  | 4 => exact hc 4 (by omega)
  | 5 => exact hc 5 (by omega)
  | 6 => exact hc 6 (by omega)
  | 7 => exact hc 7 (by omega)
  | j + 8 => rw [Array.getElem?_eq_none (by omega), Array.getElem?_eq_none (by simp)]
end Go.Proofs.Ybulkthg
