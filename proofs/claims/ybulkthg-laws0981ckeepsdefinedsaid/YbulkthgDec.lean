import Derived.Test.YbulkthgRows
import Derived.WalkKit
import Derived.WalkSpells
import Derived.WalkLawsBesides
import Derived.Deep.OwnRows
import Derived.Maps.OwnSet
namespace Go.Proofs.Ybulkthg
open Go.RowKit

/-! ### the table of profiles: a map from names to pointers, each to a block of its own -/

/-- how a pointer to the head of a block reads -/
def encP : Option Nat → DataW Unit
  | none => .lit (.bool false)
  | some b => .lit (.int .u64 b)
def ptrOf : Option Nat → Value
  | none => .pointer none
  | some b => .pointer (some ⟨b, 0, none⟩)
def ptrElem : Value → Option (DataW Unit × List MemPlace)
  | .pointer none => some (encP none, [])
  | .pointer (some a) => if a = ⟨a.block, 0, none⟩ then some (encP (some a.block), []) else none
  | _ => none

theorem ptrElem_of (p : Option Nat) : ptrElem (ptrOf p) = some (encP p, []) := by
  cases p <;> simp [ptrOf, ptrElem]

theorem encP_inj {p q : Option Nat} (h : encP p = encP q) : p = q := by
  cases p <;> cases q <;> simp [encP] at h
  · rfl
  · rename_i x y
    have : x = y := by omega
    rw [this]

theorem ptrElem_inv {v : Value} {p : Option Nat} {ps : List MemPlace} (h : ptrElem v = some (encP p, ps)) : v = ptrOf p := by
  unfold ptrElem at h
  split at h
  · simp at h
    rw [← encP_inj h.1]
    rfl
  · rename_i a
    split at h
    · rename_i ha
      simp at h
      rw [← encP_inj h.1]
      show Value.pointer (some a) = .pointer (some ⟨a.block, 0, none⟩)
      rw [← ha]
    · cases h
  · cases h

theorem law9 : Maps.Keyed Yba.prog 9 := Maps.string_keyed Yba.underlying9
theorem zero34 (w : World) : (zeroValue 34).run Yba.prog w = .ok (.pointer none) w := by kernel_rfl

/-- what is known of the map behind the field -/
structure Tab (w : World) (mo : Option Nat) (f : List UInt8 → Option Nat) (c : Nat) : Prop where
  nil : mo = none → c = 0 ∧ ∀ s, f s = none
  map : ∀ mB, mo = some mB → ∃ D : DataW Unit, w.ownsMap Yba.prog 9 ptrElem mB c D ∧ Maps.size D = c ∧ (∀ s, Maps.has D (.string s) = (f s).isSome) ∧ ∀ s, D.atKey (.string s) (encP none) = encP (f s)

/-- block b is a profile called s -/
def Prof (w : World) (s : List UInt8) (b : Nat) (d : Bool) : Prop :=
  ∃ cs, w.heap[b]? = some (.cells cs 54 (0, 0)) ∧ cs[0]? = some (.string ⟨s.toArray⟩) ∧ cs[15]? = some (.bool false) ∧ cs[16]? = some (.bool false) ∧ cs[17]? = some (.bool d)

/-- the decoder in block dB, its table f, which profiles are defined (g), how many there are (c) -/
structure Dec (w : World) (base dB : Nat) (mo : Option Nat) (f : List UInt8 → Option Nat) (g : List UInt8 → Bool) (c : Nat) : Prop where
  low : base ≤ dB
  lt : dB < w.heap.size
  fld : w.cell? ⟨dB, 13, none⟩ = some (.map mo)
  frz : w.frozen? ⟨dB, 13, none⟩ = false
  tab : Tab w mo f c
  mlow : ∀ mB, mo = some mB → base ≤ mB ∧ mB ≠ dB
  prof : ∀ s b, f s = some b → base ≤ b ∧ b ≠ dB ∧ Prof w s b (g s)
  gno : ∀ s, f s = none → g s = false

theorem prof_block {w w' : World} {s : List UInt8} {b : Nat} {d : Bool} (h : Prof w s b d) (e : w'.heap[b]? = w.heap[b]?) : Prof w' s b d := by
  obtain ⟨cs, h0, h1⟩ := h
  exact ⟨cs, e.trans h0, h1⟩
theorem prof_lt {w : World} {s : List UInt8} {b : Nat} {d : Bool} (h : Prof w s b d) : b < w.heap.size := by
  obtain ⟨cs, h0, _⟩ := h
  exact (Array.getElem?_eq_some_iff.1 h0).1

theorem tab_block {w w' : World} {mo : Option Nat} {f : List UInt8 → Option Nat} {c : Nat} (h : Tab w mo f c) (e : ∀ mB, mo = some mB → w'.heap[mB]? = w.heap[mB]?) : Tab w' mo f c := by
  refine ⟨h.nil, fun mB hm => ?_⟩
  obtain ⟨D, ⟨es, clock, hb, r⟩, r2⟩ := h.map mB hm
  exact ⟨D, ⟨es, clock, (e mB hm).trans hb, r⟩, r2⟩

/-- a map's block is no profile's -/
theorem prof_ne {w : World} {s : List UInt8} {b mB c : Nat} {d : Bool} {D : DataW Unit} (h : Prof w s b d) (hm : w.ownsMap Yba.prog 9 ptrElem mB c D) : b ≠ mB := by
  rintro rfl
  obtain ⟨cs, h0, _⟩ := h
  obtain ⟨es, clock, hb, _⟩ := hm
  rw [h0] at hb
  cases hb

/-- nothing of it has turned -/
theorem dec_blocks {w w' : World} {base dB : Nat} {mo : Option Nat} {f : List UInt8 → Option Nat} {g : List UInt8 → Bool} {c : Nat} (h : Dec w base dB mo f g c) (hs : w.heap.size ≤ w'.heap.size) (e : ∀ k, base ≤ k → k < w.heap.size → (k = dB ∨ mo = some k ∨ ∃ s, f s = some k) → w'.heap[k]? = w.heap[k]?) : Dec w' base dB mo f g c := by
  have ed := e dB h.low h.lt (.inl rfl)
  refine ⟨h.low, Nat.lt_of_lt_of_le h.lt hs, by rw [World.cell?_of_block (w := w) ed]; exact h.fld, by rw [World.frozen?_of_block (w := w) ed]; exact h.frz, tab_block h.tab (fun mB hm => ?_), h.mlow, fun s b hb => ?_, h.gno⟩
  · obtain ⟨D, hD, _⟩ := h.tab.map mB hm
    exact e mB (h.mlow mB hm).1 hD.lt (.inr (.inl hm))
  · obtain ⟨h1, h2, h3⟩ := h.prof s b hb
    exact ⟨h1, h2, prof_block h3 (e b h1 (prof_lt h3) (.inr (.inr ⟨s, hb⟩)))⟩

theorem dec_carry {w w' : World} {base dB : Nat} {mo : Option Nat} {f : List UInt8 → Option Nat} {g : List UInt8 → Bool} {c : Nat} (h : Dec w base dB mo f g c) (hb : Below w.heap.size w w') : Dec w' base dB mo f g c :=
  dec_blocks h hb.size (fun k _ hk _ => hb.block k hk)

/-- the map is made -/
theorem dec_made {w : World} {base dB : Nat} {f : List UInt8 → Option Nat} {g : List UInt8 → Bool} {c : Nat} (h : Dec w base dB none f g c) :
    Dec ((w.alloc (.map #[] 0)).setCell ⟨dB, 13, none⟩ (.map (some w.heap.size))) base dB (some w.heap.size) f g c := by
  have hl := h.lt
  obtain ⟨rfl, hf⟩ := h.tab.nil rfl
  have ha : (w.alloc (.map #[] 0)).cell? ⟨dB, 13, none⟩ = some (.map none) := (World.cell?_of_block (Below.heap_alloc w _ dB hl)).trans h.fld
  refine ⟨h.low, by simp; omega, World.cell?_setCell_same _ _ _ ha, ?_, ⟨fun e => (by cases e), fun mB hm => ?_⟩, fun mB hm => ?_, fun s b hb => ?_, h.gno⟩
  · rw [World.frozen?_setCell]
    exact (World.frozen?_of_block (Below.heap_alloc w _ dB hl)).trans h.frz
  · obtain rfl : w.heap.size = mB := Option.some.inj hm
    refine ⟨.map [], (World.ownsMap_made w Yba.prog 9 ptrElem).setCell (by show w.heap.size ≠ dB; omega) _, rfl, fun s => ?_, fun s => ?_⟩
    · rw [hf s]; rfl
    · rw [hf s]; rfl
  · obtain rfl : w.heap.size = mB := Option.some.inj hm
    exact ⟨Nat.le_of_lt (Nat.lt_of_le_of_lt h.low hl), by omega⟩
  · rw [hf s] at hb
    cases hb

/-- a profile is made and stored -/
theorem dec_insert {w w2 : World} {base dB mB : Nat} {f : List UInt8 → Option Nat} {g : List UInt8 → Bool} {c : Nat} {s : List UInt8} {cs : Array Value} (h : Dec w base dB (some mB) f g c) (hf : f s = none)
    (h0 : cs[0]? = some (.string ⟨s.toArray⟩)) (h15 : cs[15]? = some (.bool false)) (h16 : cs[16]? = some (.bool false)) (h17 : cs[17]? = some (.bool false))
    {D : DataW Unit} (hD : w.ownsMap Yba.prog 9 ptrElem mB c D) (hsz : Maps.size D = c) (hh : ∀ s, Maps.has D (.string s) = (f s).isSome) (hat : ∀ s, D.atKey (.string s) (encP none) = encP (f s))
    (hD2 : w2.ownsMap Yba.prog 9 ptrElem mB (c + 1) (D.put (.string s) (encP (some w.heap.size)))) (hg : (w.alloc (.cells cs 54)).grownBy w2 (some mB)) :
    Dec w2 base dB (some mB) (fun x => if x = s then some w.heap.size else f x) g (c + 1) ∧ Below base w w2 ∧ ∀ k, k < w.heap.size → k ≠ dB → k ≠ mB → w2.heap[k]? = w.heap[k]? := by
  have hl := h.lt
  have hlow := h.low
  have hs2 := hg.size
  simp at hs2
  obtain ⟨hm1, hm2⟩ := h.mlow mB rfl
  have hmlt := hD.lt
  have blk : ∀ k, k < w.heap.size → k ≠ mB → w2.heap[k]? = w.heap[k]? := fun k hk hne => (hg.block k (by simp; omega) (fun e => hne (Option.some.inj e))).trans (Below.heap_alloc w _ k hk)
  have new : w2.heap[w.heap.size]? = some (.cells cs 54 (0, 0)) := (hg.block w.heap.size (by simp) (fun e => by have := Option.some.inj e; omega)).trans (Deep.blk_alloc_new w _)
  have hkl : WideAt.IsKeyLit (.string s) := trivial
  refine ⟨⟨hlow, by omega, ?_, ?_, ⟨fun e => (by cases e), fun m hm => ?_⟩, fun m hm => ?_, fun x b hb => ?_, fun x hx => ?_⟩, ?_, fun k hk _ hne => blk k hk hne⟩
  · rw [World.cell?_of_block (w := w) (blk dB hl (fun e => hm2 e.symm))]
    exact h.fld
  · rw [World.frozen?_of_block (w := w) (blk dB hl (fun e => hm2 e.symm))]
    exact h.frz
  · obtain rfl : mB = m := Option.some.inj hm
    refine ⟨_, hD2, ?_, fun x => ?_, fun x => ?_⟩
    · rw [Maps.size_put (hD.tidy law9), hh s, hf, hsz]
      rfl
    · by_cases e : x = s
      · subst e
        rw [Maps.has_put_same hD.isMap hkl, if_pos rfl]
        rfl
      · rw [Maps.has_put_other (by simpa using e), if_neg e]
        exact hh x
    · by_cases e : x = s
      · subst e
        rw [Maps.atKey_put_same hD.isMap hkl, if_pos rfl]
      · rw [Maps.atKey_put_other (by simpa using e), if_neg e]
        exact hat x
  · exact h.mlow m hm
  · by_cases e : x = s
    · subst e
      rw [if_pos rfl] at hb
      obtain rfl : w.heap.size = b := Option.some.inj hb
      exact ⟨by omega, by omega, cs, new, h0, h15, h16, by rw [h.gno x hf]; exact h17⟩
    · rw [if_neg e] at hb
      obtain ⟨h1, h2, h3⟩ := h.prof x b hb
      exact ⟨h1, h2, prof_block h3 (blk b (prof_lt h3) (prof_ne h3 hD))⟩
  · by_cases e : x = s
    · rw [if_pos e] at hx
      cases hx
    · rw [if_neg e] at hx
      exact h.gno x hx
  · exact ((Below.refl base w).alloc (by omega) _).grown hg (by simp; omega) (fun k hk => by cases hk; exact hm1)

/-! ### the look-up, for the walk -/
theorem wpList_lookup_ptr (w : World) {ops : Array Oper} {rest : List Oper} {o : Oper} {a : Act} {Q : Exit → Act → World → Prop} (hg : o.guard = none) (m x : Operand) (hop : o.op = Op.lookup 65 m x true)
    (mB c : Nat) (D : DataW Unit) (p : Option Nat) (s : ByteArray) (hs : s.size ≤ maxLen) (hm : a.eval m = .map (some mB)) (hx : a.eval x = .string s) (hown : w.ownsMap Yba.prog 9 ptrElem mB c D)
    (hh : Maps.has D (.string s.data.toList) = p.isSome) (hat : D.atKey (.string s.data.toList) (encP none) = encP p)
    (hK : wpList Yba.prog ops Q rest (a.put o.dst (.tuple #[ptrOf p, .bool p.isSome])) w) :
    wpList Yba.prog ops Q (o :: rest) a w := by
  refine wpList_lookup_own_ok w hg m x 65 hop 9 34 law9 Yba.underlying65 ptrElem (zero34 w) (encP none) [] (ptrElem_of none) mB c D hm hown (.string s) (.string s.data.toList) hx (WideMaps.keyOf_string_mk Yba.underlying9 hs) ?_
  intro v ps hv
  rw [hat] at hv
  rw [ptrElem_inv hv, hh]
  exact hK
end Go.Proofs.Ybulkthg
