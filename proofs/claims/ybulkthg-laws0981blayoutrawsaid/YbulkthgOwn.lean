import Derived.Test.YbulkthgRows
import Derived.WalkKit
import Derived.WalkSpells
import Derived.WalkLawsBesides
import Derived.Deep.OwnRows
import Derived.Deep.Upon
import Derived.Lib.EndianMore
namespace Go.Proofs.Ybulkthg
open Go.RowKit

/-- a slice of integers, by the index: one form for nil, empty and the rest -/
def Seen (k : IntKind) (w : World) (a : Option Addr) (n : Nat) (z : Nat → Int) : Prop :=
  ∀ i, i < n → ∃ b off, a = some ⟨b, off, none⟩ ∧ w.cell? ⟨b, off + i, none⟩ = some (.int k (z i))

/-- a slice of bytes that the call made: it begins at the head of block g; n bytes 'zs'; room for cap, none frozen -/
structure Own (w : World) (base g n cap : Nat) (zs : List Int) : Prop where
  len : zs.length = n
  base : base ≤ g
  lt : g < w.heap.size
  le : n ≤ cap
  max : cap ≤ maxLen
  cell : ∀ i, i < n → w.cell? ⟨g, i, none⟩ = some (.int .u8 (zs.getD i 0))
  there : ∀ i, i < cap → (w.cell? ⟨g, i, none⟩).isSome = true ∧ w.frozen? ⟨g, i, none⟩ = false

theorem seen_carry {k : IntKind} {w w' : World} {a : Option Addr} {n : Nat} {z : Nat → Int} (h : Seen k w a n z) {B : Nat} (hb : Below B w w') (hB : w.heap.size ≤ B) : Seen k w' a n z := by
  intro i hi
  obtain ⟨b, off, ha, hc⟩ := h i hi
  exact ⟨b, off, ha, (hb.cell (Nat.lt_of_lt_of_le (World.block_lt_of_cell? w _ hc) hB)).trans hc⟩

/-- .. of memory that lies below B -/
theorem seen_below {k : IntKind} {W w' : World} {a : Option Addr} {n : Nat} {z : Nat → Int} (h : Seen k W a n z) (hb : Below W.heap.size W w') : Seen k w' a n z := seen_carry h hb (Nat.le_refl _)

theorem own_seen {w : World} {base g n cap : Nat} {zs : List Int} (h : Own w base g n cap zs) : Seen .u8 w (some ⟨g, 0, none⟩) n (fun i => zs.getD i 0) :=
  fun i hi => ⟨g, 0, rfl, by rw [Nat.zero_add]; exact h.cell i hi⟩

/-- a block that has not turned -/
theorem own_block {w w' : World} {base g n cap : Nat} {zs : List Int} (h : Own w base g n cap zs) (hs : w.heap.size ≤ w'.heap.size) (hb : w'.heap[g]? = w.heap[g]?) : Own w' base g n cap zs :=
  ⟨h.len, h.base, Nat.lt_of_lt_of_le h.lt hs, h.le, h.max, fun i hi => by rw [World.cell?_of_block (w := w) hb]; exact h.cell i hi,
    fun i hi => by rw [World.cell?_of_block (w := w) hb, World.frozen?_of_block (w := w) hb]; exact h.there i hi⟩

theorem own_alloc {w : World} {base g n cap : Nat} {zs : List Int} (h : Own w base g n cap zs) (o : Obj) : Own (w.alloc o) base g n cap zs :=
  own_block h (by simp) (Below.heap_alloc w o g h.lt)

theorem own_carry {w w' : World} {base g n cap : Nat} {zs : List Int} (h : Own w base g n cap zs) {B : Nat} (hb : Below B w w') (hB : g < B) : Own w' base g n cap zs :=
  own_block h hb.size (hb.block g hB)

theorem own_mono {w : World} {base base' g n cap : Nat} {zs : List Int} (h : Own w base g n cap zs) (hB : base' ≤ base) : Own w base' g n cap zs :=
  ⟨h.len, Nat.le_trans hB h.base, h.lt, h.le, h.max, h.cell, h.there⟩

theorem getD_append_left {l r : List Int} {i : Nat} (h : i < l.length) : (l ++ r).getD i 0 = l.getD i 0 := by
  simp [List.getD, List.getElem?_append_left h]
theorem getD_append_right {l r : List Int} {i : Nat} (h : l.length ≤ i) : (l ++ r).getD i 0 = r.getD (i - l.length) 0 := by
  simp [List.getD, List.getElem?_append_right h]

section
variable {P : Program} (w : World)

theorem src_of_seen {tx e' : TypeId} (hk : P.underlying tx = some (.slice e')) {a : Option Addr} {m c : Nat} {y : Nat → Int} (h : Seen .u8 w a m y) : Src P 1 tx (.slice a m c) m ((List.range m).map fun i => Value.int .u8 (y i)) w := by
  rcases Nat.eq_zero_or_pos m with rfl | hm
  · cases a with
    | none => exact Src.ofNil w hk c
    | some x => exact Src.ofSlice w hk x 0 c [] rfl (fun j u hu => by simp at hu) (fun u hu => by cases hu)
  · obtain ⟨b, off, rfl, _⟩ := h 0 hm
    refine Src.ofSlice w hk ⟨b, off, none⟩ m c _ (by simp) (fun j u hu => ?_) (fun u hu => ?_)
    · rw [List.getElem?_map] at hu
      by_cases hj : j < m
      · rw [List.getElem?_range hj] at hu
        obtain ⟨b', off', he, hc⟩ := h j hj
        simp at he hu
        obtain ⟨rfl, rfl⟩ := he
        rw [Addr.add_lit, hc, hu]
      · rw [List.getElem?_eq_none (by simp; omega)] at hu
        simp at hu
    · obtain ⟨i, _, rfl⟩ := List.mem_map.1 hu
      rfl

/-- 'append(b, x...)', b the call's own: room or not -/
theorem run_append_seen (t ty e : TypeId) (i : TypeInfo) (ht : P.underlying t = some (.slice e)) (hi : P.info? e = some i) (hz0 : i.zero = some (.int .u8 0)) (hz1 : i.size = 1) (hz2 : i.bytes = 1)
    {base g n cap : Nat} {zs : List Int} (hown : Own w base g n cap zs) {a : Option Addr} {m c : Nat} {y : Nat → Int} (h : Seen .u8 w a m y) (hb : n + m ≤ 1000000) :
    ∃ g' cap' w', (Builtin.append_ #[t, t] ty #[.slice (some ⟨g, 0, none⟩) n cap, .slice a m c]).run P w = .ok (.slice (some ⟨g', 0, none⟩) (n + m) cap') w' ∧ Own w' base g' (n + m) cap' (zs ++ (List.range m).map y) ∧
      w.grownBy w' (some g) ∧ (g' = g ∨ w.heap.size ≤ g') := by
  have hs := src_of_seen (P := P) w (tx := t) (c := c) ht h
  have hs' : Src P i.size t (.slice a m c) m ((List.range m).map fun i => Value.int .u8 (y i)) w := by rw [hz1]; exact hs
  have hlen : ((List.range m).map fun i => Value.int .u8 (y i)).length = m := by simp
  have hzl := hown.len
  by_cases hr : n + m ≤ cap
  · have hthere : ∀ j, j < ((List.range m).map fun i => Value.int .u8 (y i)).length → (w.cell? ⟨g, 0 + n * i.size + j, none⟩).isSome = true ∧ w.frozen? ⟨g, 0 + n * i.size + j, none⟩ = false := by
      intro j hj
      rw [hlen] at hj
      rw [hz1, Nat.zero_add, Nat.mul_one]
      exact hown.there (n + j) (by omega)
    have hrun := run_append_room_src (P := P) w t t ty e i ht hi g 0 n cap (.slice a m c) m _ hs' hr (fun j hj => (hthere j hj).1) (fun j hj => (hthere j hj).2)
    rw [hz1, Nat.zero_add, Nat.mul_one] at hrun
    have hcs : ∀ j, j < ((List.range m).map fun i => Value.int .u8 (y i)).length → (w.cell? ⟨g, n + j, none⟩).isSome = true := fun j hj => (hown.there (n + j) (by rw [hlen] at hj; omega)).1
    refine ⟨g, cap, _, hrun, ⟨by simp [hzl], hown.base, ?_, hr, hown.max, fun j hj => ?_, fun j hj => ?_⟩, ?_, .inl rfl⟩
    · have := (Lib.below_setCells_w (Nat.zero_le g) ((List.range m).map fun i => Value.int .u8 (y i)) n w).size
      exact Nat.lt_of_lt_of_le hown.lt this
    · by_cases hjn : j < n
      · rw [World.cell?_setCells_out _ _ _ _ _ (fun _ _ => Or.inl hjn), hown.cell j hjn, getD_append_left (by omega)]
      · have := World.cell?_setCells_in g ((List.range m).map fun i => Value.int .u8 (y i)) n w hcs (j - n) (by rw [hlen]; omega)
        rw [show n + (j - n) = j by omega] at this
        rw [this, getD_append_right (by omega), hzl]
        simp [List.getD, show j - n < m by omega]
    · refine ⟨?_, ?_⟩
      · by_cases hjn : n ≤ j ∧ j < n + m
        · have := World.cell?_setCells_in g ((List.range m).map fun i => Value.int .u8 (y i)) n w hcs (j - n) (by rw [hlen]; omega)
          rw [show n + (j - n) = j by omega] at this
          rw [this]; rfl
        · rw [World.cell?_setCells_out _ _ _ _ _ (fun _ _ => by rw [hlen]; show j < n ∨ n + m ≤ j; omega)]
          exact (hown.there j hj).1
      · rw [World.frozen?_setCells]
        exact (hown.there j hj).2
    · have hbl := Lib.below_setCells_w (Nat.zero_le g) ((List.range m).map fun i => Value.int .u8 (y i)) n w
      exact ⟨hbl.os, hbl.tape, hbl.output, hbl.size, fun k hk hne => World.heap_setCells_other w g n _ hk (fun e => hne (by rw [e]))⟩
  · have hold : (Builtin.firstCells i.size n (.slice (some ⟨g, 0, none⟩) n cap)).run P w.drew = .ok (zs.map (Value.int .u8)).toArray w.drew := by
      rw [hz1]
      refine run_firstCells_some w.drew 1 n ⟨g, 0, none⟩ n cap _ (by simp [hzl]) (fun j u hu => ?_)
      rw [List.getElem?_map] at hu
      by_cases hj : j < zs.length
      · have hc := hown.cell j (by omega)
        simp [List.getD, hj] at hu hc
        rw [Addr.add_lit, ← hu, Nat.zero_add]
        exact hc
      · rw [List.getElem?_eq_none (by omega)] at hu
        simp at hu
    have hrun := run_append_grow_src (P := P) w t t ty e i (.int .u8 0) ht hi hz0 (some ⟨g, 0, none⟩) n cap (zs.map (Value.int .u8)) hold (.slice a m c) m _ hs' (by omega) (by omega) (growslice_fits (by omega) (by rw [hz2]; omega))
    have hge := grownCap_ge w (n + m) cap e
    have hcm : grownCap w (n + m) cap e ≤ maxLen := grownCap_le_maxLen w (n + m) cap e (by unfold maxLen; omega)
    have hblk : ∀ o, (w.drew.alloc o).heap[w.heap.size]? = some o := fun o => Deep.blk_alloc_new w.drew o
    have hcell : ∀ o (c : Array Value) (mk : Nat × Nat), o = Obj.cells c e mk → ∀ j, (w.drew.alloc o).cell? ⟨w.heap.size, j, none⟩ = c[j]? := by
      intro o c mk ho j
      unfold World.cell?
      rw [hblk, ho]
      rfl
    have hzc : (Value.int IntKind.u8 0).cells = #[.int .u8 0] := rfl
    refine ⟨w.heap.size, _, _, hrun, ⟨by simp [hzl], Nat.le_of_lt (Nat.lt_of_le_of_lt hown.base hown.lt), by simp, hge, hcm, fun j hj => ?_, fun j hj => ⟨?_, ?_⟩⟩, ?_, .inr (Nat.le_refl _)⟩
    · rw [hcell _ _ _ rfl, Array.getElem?_append_left (by simp [hzl]; exact hj)]
      by_cases hjn : j < n
      · rw [getD_append_left (by omega), List.getElem?_toArray, List.getElem?_append_left (by simp; omega)]
        simp [List.getD, show j < zs.length by omega]
      · rw [getD_append_right (by omega), List.getElem?_toArray, List.getElem?_append_right (by simp; omega), hzl]
        simp [List.getD, show j - n < m by omega, hzl]
    · rw [hcell _ _ _ rfl, hzc]
      rw [Array.getElem?_eq_getElem (by simp [size_zeroCells, hzl]; omega)]
      rfl
    · unfold World.frozen?
      rw [hblk]
      simp
    · exact ⟨rfl, rfl, rfl, by simp, fun k hk _ => Below.heap_alloc w.drew _ k hk⟩

theorem wpList_append_seen {ops : Array Oper} {rest : List Oper} {o : Oper} {a : Act} {Q : Exit → Act → World → Prop} (hg : o.guard = none) (s x : Operand) (t : TypeId)
    (hop : o.op = Op.call { callee := Callee.builtin Builtin.append, args := #[s, x], argTypes := #[t, t] })
    (e : TypeId) (i : TypeInfo) (ht : P.underlying t = some (.slice e)) (hi : P.info? e = some i) (hz0 : i.zero = some (.int .u8 0)) (hz1 : i.size = 1) (hz2 : i.bytes = 1)
    {base g n cap : Nat} {zs : List Int} (hs : a.eval s = .slice (some ⟨g, 0, none⟩) n cap) (hown : Own w base g n cap zs) {ao : Option Addr} {m c : Nat} {y : Nat → Int} (hx : a.eval x = .slice ao m c) (h : Seen .u8 w ao m y) (hb : n + m ≤ 1000000)
    (hK : ∀ g' cap' w', Own w' base g' (n + m) cap' (zs ++ (List.range m).map y) → w.grownBy w' (some g) → (g' = g ∨ w.heap.size ≤ g') → wpList P ops Q rest (a.put o.dst (.slice (some ⟨g', 0, none⟩) (n + m) cap')) w') :
    wpList P ops Q (o :: rest) a w := by
  refine wpList_plain hg fun K hK' => ?_
  obtain ⟨g', cap', w', hrun, h1, h2, h3⟩ := run_append_seen (P := P) w t o.type e i ht hi hz0 hz1 hz2 hown (c := c) h hb
  unfold Oper.wp
  simp [execOp, hop, resolve, invoke, builtin, hs, hx, hrun, Result.andThen]
  exact hK' _ _ (hK g' cap' w' h1 h2 h3)
end
end Go.Proofs.Ybulkthg
