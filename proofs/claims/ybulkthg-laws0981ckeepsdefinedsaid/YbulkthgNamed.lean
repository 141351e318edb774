import Derived.Test.YbulkthgDec
namespace Go.Proofs.Ybulkthg
open Go.RowKit

set_option maxHeartbeats 400000 in
theorem newDecoder_any (w : World) :
    Calls Yba.prog 9 #[.nilIface, .slice none 0 0] w fun e w' => e = .returned (.pointer (some ⟨w.heap.size + 1, 0, none⟩)) ∧ Dec w' w.heap.size (w.heap.size + 1) none (fun _ => none) (fun _ => false) 0 ∧ Below w.heap.size w w' ∧ w'.heap.size = w.heap.size + 2 := by
  have hmm := @run_makeMap Yba.prog
  go_enter Yba.func9, Yba.ntmps9
  go_wp2
  go_ret
  have hs : (w.alloc (.map #[] 0)).heap.size = w.heap.size + 1 := by simp
  refine ⟨rfl, ⟨by omega, by simp, ?_, ?_, ⟨fun _ => ⟨rfl, fun _ => rfl⟩, fun m h => (by cases h)⟩, fun m h => (by cases h), fun s b h => (by cases h), fun s _ => rfl⟩, ((Below.refl _ _).alloc (Nat.le_refl _) _).alloc (by simp) _, by simp⟩
  · unfold World.cell?
    rw [← hs, Deep.blk_alloc_new]
    rfl
  · unfold World.frozen?
    rw [← hs, Deep.blk_alloc_new]
    rfl

set_option maxHeartbeats 400000 in
/-- a name that is there -/
theorem named_old (base dB mB b c : Nat) (f : List UInt8 → Option Nat) (g : List UInt8 → Bool) (s : ByteArray) (w : World) (hs : s.size ≤ maxLen) (h : Dec w base dB (some mB) f g c) (hf : f s.data.toList = some b) :
    Calls Yba.prog 10 #[.pointer (some ⟨dB, 0, none⟩), .string s] w fun e w' => e = .returned (.pointer (some ⟨b, 0, none⟩)) ∧ w' = w := by
  obtain ⟨D, hD, _, hh, hat⟩ := h.tab.map mB rfl
  have hc := h.fld
  have h1 := hh s.data.toList
  have h2 := hat s.data.toList
  rw [hf] at h1 h2
  have H1 : Hid (Maps.has D (.string s.data.toList) = (some b : Option Nat).isSome) := h1
  have H2 : Hid (D.atKey (.string s.data.toList) (encP none) = encP (some b)) := h2
  clear h1 h2 hh hat hf h
  go_enter Yba.func10, Yba.ntmps10
  go_wp2_with (at_lookup; refine wpList_lookup_ptr _ rfl _ _ rfl mB c D (some b) s hs rfl rfl hD H1.out H2.out ?_; unfold ptrOf)
  go_ret
  exact ⟨rfl, rfl⟩

/-- what a call of named leaves -/
def Named (w w' : World) (base dB : Nat) (mo : Option Nat) (f : List UInt8 → Option Nat) (g : List UInt8 → Bool) (c : Nat) (s : List UInt8) (b : Nat) : Prop :=
  ∃ mo', Dec w' base dB mo' (fun x => if x = s then some b else f x) g (if (f s).isSome then c else c + 1) ∧ Below base w w' ∧ (mo' = mo ∨ ∃ k, mo' = some k ∧ w.heap.size ≤ k) ∧ (∀ b0, f s = some b0 → b0 = b) ∧ ∀ k, k < w.heap.size → k ≠ dB → mo ≠ some k → w'.heap[k]? = w.heap[k]?

set_option maxHeartbeats 400000 in
/-- a new name, the map is there -/
theorem named_new (base dB mB c : Nat) (f : List UInt8 → Option Nat) (g : List UInt8 → Bool) (s : ByteArray) (w : World) (hs : s.size ≤ maxLen) (hc : c ≤ 100000) (h : Dec w base dB (some mB) f g c) (hf : f s.data.toList = none) :
    Calls Yba.prog 10 #[.pointer (some ⟨dB, 0, none⟩), .string s] w fun e w' => ∃ b, e = .returned (.pointer (some ⟨b, 0, none⟩)) ∧ Named w w' base dB (some mB) f g c s.data.toList b := by
  obtain ⟨D, hD, hsz, hh, hat⟩ := h.tab.map mB rfl
  have hcl := h.fld
  have hlt := h.lt
  have hca : ∀ o, (w.alloc o).cell? ⟨dB, 13, none⟩ = some (.map (some mB)) := fun o => (World.cell?_of_block (Below.heap_alloc w o dB hlt)).trans hcl
  have h1 := hh s.data.toList
  have h2 := hat s.data.toList
  rw [hf] at h1 h2
  have H1 : Hid (Maps.has D (.string s.data.toList) = (none : Option Nat).isSome) := h1
  have H2 : Hid (D.atKey (.string s.data.toList) (encP none) = encP none) := h2
  have I := fun cs w2 => dec_insert (w2 := w2) (cs := cs) h hf
  have J : Hid (f s.data.toList = none) := hf
  clear h1 h2 h hf
  have q65 : ∀ (w : World) (r : Option Nat), (binOp .eql 65 (.map r) (.map none)).run Yba.prog w = .ok (.bool r.isNone) w := fun w r => run_eql_map_nil w 65 9 34 r Yba.underlying65
  go_enter Yba.func10, Yba.ntmps10
  go_wp2_with (first
    | (at_lookup; refine wpList_lookup_ptr _ rfl _ _ rfl mB c D none s hs rfl rfl hD H1.out H2.out ?_; unfold ptrOf)
    | (at_mapUpdate; refine wpList_mapUpdate_own _ rfl _ _ _ 65 rfl 9 34 law9 Yba.underlying65 ptrElem mB c D rfl (hD.alloc _) (by unfold maxLen; omega) _ _ (.string s.data.toList) rfl rfl (WideMaps.keyOf_string_mk Yba.underlying9 hs) (encP (some w.heap.size)) [] (ptrElem_of (some w.heap.size)) ?_; intro w2 hD2 hg2))
  go_ret
  obtain ⟨i1, i2, i3⟩ := I _ _ rfl rfl rfl rfl hD hsz hh hat hD2 hg2
  exact ⟨w.heap.size, rfl, some mB, by rw [J.out]; exact i1, i2, .inl rfl, fun b0 h0 => (by rw [J.out] at h0; cases h0), fun k hk h1 h2 => i3 k hk h1 (fun e => h2 (by rw [e]))⟩

set_option maxHeartbeats 400000 in
/-- the first name of all: the map is made -/
theorem named_first (base dB c : Nat) (f : List UInt8 → Option Nat) (g : List UInt8 → Bool) (s : ByteArray) (w : World) (hs : s.size ≤ maxLen) (hc : c ≤ 100000) (h : Dec w base dB none f g c) :
    Calls Yba.prog 10 #[.pointer (some ⟨dB, 0, none⟩), .string s] w fun e w' => ∃ b, e = .returned (.pointer (some ⟨b, 0, none⟩)) ∧ Named w w' base dB none f g c s.data.toList b := by
  have hcl := h.fld
  have hlt := h.lt
  have hne : dB ≠ w.heap.size := by omega
  have hca : (w.alloc (.map #[] 0)).cell? ⟨dB, 13, none⟩ = some (.map none) := (World.cell?_of_block (Below.heap_alloc w _ dB hlt)).trans hcl
  have hfa : (w.alloc (.map #[] 0)).frozen? ⟨dB, 13, none⟩ = false := (World.frozen?_of_block (Below.heap_alloc w _ dB hlt)).trans h.frz
  have h1 := dec_made h
  have e0 : (w.alloc (.map #[] 0)).setCell ⟨dB, 13, none⟩ (.map (some w.heap.size)) = (w.setCell ⟨dB, 13, none⟩ (.map (some w.heap.size))).alloc (.map #[] 0) := World.setCell_alloc_past _ _ _ _ hlt
  have hbl : Below base w ((w.alloc (.map #[] 0)).setCell ⟨dB, 13, none⟩ (.map (some w.heap.size))) := ((Below.refl base w).alloc (by have := h.low; omega) _).setCell h.low _
  rw [e0] at h1 hbl
  clear e0
  have hf := (h.tab.nil rfl).2 s.data.toList
  obtain ⟨D, hD, hsz, hh, hat⟩ := h1.tab.map _ rfl
  have hcb := fun o => (World.cell?_of_block (Below.heap_alloc ((w.setCell ⟨dB, 13, none⟩ (.map (some w.heap.size))).alloc (.map #[] 0)) o dB h1.lt)).trans h1.fld
  have hcc := h1.fld
  have hzz : ((w.setCell ⟨dB, 13, none⟩ (.map (some w.heap.size))).alloc (.map #[] 0)).heap.size = w.heap.size + 1 := by simp
  have I := fun cs w2 => dec_insert (w2 := w2) (cs := cs) h1 hf
  have J : Hid (f s.data.toList = none) := hf
  have hln : ∀ w, (Instr.lookup 65 (.map none) (.string s) true).run Yba.prog w = .ok (.tuple #[.pointer none, .bool false]) w := fun w => Maps.look_nil true law9 Yba.underlying65 (zero34 w) (WideMaps.keyOf_string_mk Yba.underlying9 hs)
  clear h1 h hf
  have q65 : ∀ (w : World) (r : Option Nat), (binOp .eql 65 (.map r) (.map none)).run Yba.prog w = .ok (.bool r.isNone) w := fun w r => run_eql_map_nil w 65 9 34 r Yba.underlying65
  have hmm := @run_makeMap Yba.prog
  go_enter Yba.func10, Yba.ntmps10
  go_wp2_with (at_mapUpdate; refine wpList_mapUpdate_own _ rfl _ _ _ 65 rfl 9 34 law9 Yba.underlying65 ptrElem w.heap.size c D rfl (hD.alloc _) (by unfold maxLen; omega) _ _ (.string s.data.toList) rfl rfl (WideMaps.keyOf_string_mk Yba.underlying9 hs) (encP (some (w.heap.size + 1))) [] (ptrElem_of (some (w.heap.size + 1))) ?_; intro w2 hD2 hg2)
  go_ret
  rw [hzz] at I
  obtain ⟨i1, i2, i3⟩ := I _ _ rfl rfl rfl rfl hD hsz hh hat hD2 hg2
  refine ⟨w.heap.size + 1, rfl, some w.heap.size, by rw [J.out]; exact i1, hbl.trans i2, .inr ⟨_, rfl, Nat.le_refl _⟩, fun b0 h0 => (by rw [J.out] at h0; cases h0), fun k hk h1 _ => ?_⟩
  rw [i3 k (by omega) h1 (by omega), Below.heap_alloc _ _ k (by simpa using hk), Below.heap_setCell _ _ _ _ h1]

/-- every name -/
theorem named_any (base dB c : Nat) (mo : Option Nat) (f : List UInt8 → Option Nat) (g : List UInt8 → Bool) (s : ByteArray) (w : World) (hs : s.size ≤ maxLen) (hc : c ≤ 100000) (h : Dec w base dB mo f g c) :
    Calls Yba.prog 10 #[.pointer (some ⟨dB, 0, none⟩), .string s] w fun e w' => ∃ b, e = .returned (.pointer (some ⟨b, 0, none⟩)) ∧ Named w w' base dB mo f g c s.data.toList b := by
  cases mo with
  | none => exact named_first base dB c f g s w hs hc h
  | some mB =>
    cases hf : f s.data.toList with
    | none => exact named_new base dB mB c f g s w hs hc h hf
    | some b =>
      refine (named_old base dB mB b c f g s w hs h hf).mono ?_
      rintro e w' ⟨rfl, rfl⟩
      refine ⟨b, rfl, some mB, ?_, Below.refl _ _, .inl rfl, fun b0 h0 => Option.some.inj (h0.symm.trans hf), fun k _ _ _ => rfl⟩
      have e1 : (fun x => if x = s.data.toList then some b else f x) = f := by
        funext x
        split
        · rename_i e; rw [e, hf]
        · rfl
      rw [e1, hf]
      exact h
end Go.Proofs.Ybulkthg
