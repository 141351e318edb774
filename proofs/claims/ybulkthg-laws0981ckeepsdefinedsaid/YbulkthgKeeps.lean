import Derived.Test.YbulkthgState
namespace Go.Proofs.Ybulkthg
open Go.RowKit

/-- a slice of bools that came in, by the index -/
def SeenB (w : World) (a : Option Addr) (n : Nat) (z : Nat → Bool) : Prop :=
  ∀ i, i < n → ∃ b off, a = some ⟨b, off, none⟩ ∧ w.cell? ⟨b, off + i, none⟩ = some (.bool (z i))

/-- is name j marked? -/
def mkd (m : Nat) (mk : Nat → Bool) (j : Nat) : Bool := decide (j < m) && mk j
/-- did one of the first k calls mark the name s? -/
def gOf (ns : Nat → ByteArray) (m : Nat) (mk : Nat → Bool) (k : Nat) (s : List UInt8) : Bool := (List.range k).any fun j => key ns j == s && mkd m mk j

theorem gOf_succ (ns : Nat → ByteArray) (m : Nat) (mk : Nat → Bool) (k : Nat) (s : List UInt8) : gOf ns m mk (k + 1) s = (gOf ns m mk k s || (key ns k == s && mkd m mk k)) := by
  unfold gOf
  rw [List.range_succ, List.any_append]
  simp

theorem gOf_no {ns : Nat → ByteArray} {m : Nat} {mk : Nat → Bool} {k : Nat} (h : mkd m mk k = false) : gOf ns m mk (k + 1) = gOf ns m mk k := by
  funext s
  rw [gOf_succ, h]
  simp
theorem gOf_yes {ns : Nat → ByteArray} {m : Nat} {mk : Nat → Bool} {k : Nat} (h : mkd m mk k = true) : gOf ns m mk (k + 1) = fun s => if s = key ns k then true else gOf ns m mk k s := by
  funext s
  rw [gOf_succ, h]
  by_cases e : s = key ns k
  · subst e; simp
  · rw [if_neg e]
    have : (key ns k == s) = false := by simpa using fun h => e h.symm
    simp [this]

/-- a profile is marked as defined -/
theorem dec_define {w : World} {base dB : Nat} {mo : Option Nat} {f : List UInt8 → Option Nat} {g : List UInt8 → Bool} {c : Nat} {s : List UInt8} {b : Nat} (h : Dec w base dB mo f g c) (hf : f s = some b) :
    Dec (w.setCell ⟨b, 17, none⟩ (.bool true)) base dB mo f (fun x => if x = s then true else g x) c := by
  obtain ⟨hb1, hb2, hp⟩ := h.prof s b hf
  have other : ∀ k, k ≠ b → (w.setCell ⟨b, 17, none⟩ (.bool true)).heap[k]? = w.heap[k]? := fun k hk => Below.heap_setCell _ _ _ _ hk
  have hd := other dB (fun e => hb2 e.symm)
  refine ⟨h.low, by simpa using h.lt, by rw [World.cell?_of_block (w := w) hd]; exact h.fld, by rw [World.frozen?_of_block (w := w) hd]; exact h.frz, tab_block h.tab (fun mB hm => other mB ?_), h.mlow, fun x b' hx => ?_, fun x hx => ?_⟩
  · obtain ⟨D, hD, _⟩ := h.tab.map mB hm
    exact fun e => prof_ne hp hD e.symm
  · obtain ⟨h1, h2, h3⟩ := h.prof x b' hx
    refine ⟨h1, h2, ?_⟩
    by_cases e : x = s
    · subst e
      rw [hf] at hx
      obtain rfl : b = b' := Option.some.inj hx
      rw [if_pos rfl]
      obtain ⟨cs, e0, c0, c15, c16, c17⟩ := hp
      refine ⟨cs.setIfInBounds 17 (.bool true), by simp [World.setCell, Array.getElem?_modify, e0], ?_, ?_, ?_, ?_⟩
      · rw [Array.getElem?_setIfInBounds]; simpa using c0
      · rw [Array.getElem?_setIfInBounds]; simpa using c15
      · rw [Array.getElem?_setIfInBounds]; simpa using c16
      · have hlt : 17 < cs.size := (Array.getElem?_eq_some_iff.1 c17).1
        rw [Array.getElem?_setIfInBounds]
        simp [hlt]
    · rw [if_neg e]
      refine prof_block h3 (other b' ?_)
      rintro rfl
      obtain ⟨cs, e0, c0, _⟩ := hp
      obtain ⟨cs', e0', c0', _⟩ := h3
      rw [e0] at e0'
      simp at e0'
      subst e0'
      rw [c0] at c0'
      simp at c0'
      exact e c0'.symm
  · by_cases e : x = s
    · subst e; rw [hf] at hx; cases hx
    · rw [if_neg e]; exact h.gno x hx

/-- the memory behind k rounds -/
structure Kp (w wr : World) (k : Nat) (ns : Nat → ByteArray) (m : Nat) (mk : Nat → Bool) (mo : Option Nat) (f : List UInt8 → Option Nat) (c : Nat) : Prop where
  dec : Dec wr w.heap.size (w.heap.size + 1) mo f (gOf ns m mk k) c
  below : Below w.heap.size w wr
  fil : Filled ns k f c

theorem kp_start {w w1 : World} {ns : Nat → ByteArray} {m : Nat} {mk : Nat → Bool} (hd : Dec w1 w.heap.size (w.heap.size + 1) none (fun _ => none) (fun _ => false) 0) (hb : Below w.heap.size w w1) : Kp w w1 0 ns m mk none (fun _ => none) 0 :=
  ⟨hd, hb, filled_start ns⟩

/-- the call of named, and what the walk reads of the profile behind it -/
theorem kp_call {w wr w' : World} {k b : Nat} {ns : Nat → ByteArray} {m : Nat} {mk : Nat → Bool} {mo : Option Nat} {f : List UInt8 → Option Nat} {c : Nat} (h : Kp w wr k ns m mk mo f c) (hN : Named wr w' w.heap.size (w.heap.size + 1) mo f (gOf ns m mk k) c (key ns k) b) :
    Below w.heap.size w w' ∧ w'.frozen? ⟨b, 17, none⟩ = false ∧ (∃ d, w'.cell? ⟨b, 17, none⟩ = some (.bool d)) ∧
      (mkd m mk k = false → ∃ mo' f' c', Kp w w' (k + 1) ns m mk mo' f' c') ∧ (mkd m mk k = true → ∃ mo' f' c', Kp w (w'.setCell ⟨b, 17, none⟩ (.bool true)) (k + 1) ns m mk mo' f' c') := by
  obtain ⟨mo', hD, hb, hmo, hsame, hfr⟩ := hN
  have hf' : (fun x => if x = key ns k then some b else f x) (key ns k) = some b := if_pos rfl
  obtain ⟨h1, h2, cs, e0, c0, c15, c16, c17⟩ := hD.prof (key ns k) b hf'
  refine ⟨h.below.trans hb, by unfold World.frozen?; rw [e0]; rfl, ⟨_, by unfold World.cell?; rw [e0]; exact c17⟩, fun hm => ?_, fun hm => ?_⟩
  · exact ⟨mo', _, _, ⟨by rw [gOf_no hm]; exact hD, h.below.trans hb, filled_step (b := b) h.fil⟩⟩
  · exact ⟨mo', _, _, ⟨by rw [gOf_yes hm]; exact dec_define hD hf', (h.below.trans hb).setCell h1 _, filled_step (b := b) h.fil⟩⟩

/-- what the second loop reads of name i -/
theorem kp_read {w wr : World} {n : Nat} {ns : Nat → ByteArray} {m : Nat} {mk : Nat → Bool} {mo : Option Nat} {f : List UInt8 → Option Nat} {c : Nat} (h : Kp w wr n ns m mk mo f c) {i : Nat} (hi : i < n) :
    ∃ b mB, mo = some mB ∧ f (key ns i) = some b ∧ wr.cell? ⟨b, 0, none⟩ = some (.string (ns i)) ∧ wr.cell? ⟨b, 17, none⟩ = some (.bool (gOf ns m mk n (key ns i))) := by
  obtain ⟨b, hb⟩ := Option.isSome_iff_exists.1 ((h.fil.dom (key ns i)).2 ⟨i, hi, rfl⟩)
  obtain ⟨mB, rfl⟩ : ∃ mB, mo = some mB := by
    cases mo with
    | none => have := (h.dec.tab.nil rfl).2 (key ns i); rw [hb] at this; cases this
    | some m => exact ⟨m, rfl⟩
  obtain ⟨_, _, cs, h0, c0, c15, c16, c17⟩ := h.dec.prof _ _ hb
  have hcell : ∀ j v, cs[j]? = some v → wr.cell? ⟨b, j, none⟩ = some v := by
    intro j v hv
    unfold World.cell?
    rw [h0]
    exact hv
  exact ⟨b, mB, rfl, hb, hcell _ _ (by simpa [key] using c0), hcell _ _ c17⟩
end Go.Proofs.Ybulkthg
