import Derived.Test.YbulkthgNamed
import Derived.Test.YbulkthgDistinct
import Derived.LaidEqlPtr
import Derived.Lib.Builder
namespace Go.Proofs.Ybulkthg
open Go.RowKit

def ptrRow (f : List UInt8 → Option Nat) (ns : Nat → ByteArray) (k j : Nat) : Value := if j < k then ptrOf (f (key ns j)) else .pointer none

/-- which names the table holds, and how many -/
structure Filled (ns : Nat → ByteArray) (k : Nat) (f : List UInt8 → Option Nat) (c : Nat) : Prop where
  dom : ∀ s, (f s).isSome = true ↔ ∃ j, j < k ∧ key ns j = s
  cnt : c = dist ns k

theorem filled_start (ns : Nat → ByteArray) : Filled ns 0 (fun _ => none) 0 := ⟨fun s => by simp, rfl⟩

theorem filled_dup {ns : Nat → ByteArray} {k : Nat} {f : List UInt8 → Option Nat} {c : Nat} (h : Filled ns k f c) : dup ns k k = (f (key ns k)).isSome := by
  rw [Bool.eq_iff_iff, h.dom]
  unfold dup
  rw [List.any_eq_true]
  constructor
  · rintro ⟨j, hj, he⟩
    exact ⟨j, by simpa using hj, by simpa using he⟩
  · rintro ⟨j, hj, he⟩
    exact ⟨j, by simpa using hj, by simpa using he⟩

theorem filled_step {ns : Nat → ByteArray} {k : Nat} {f : List UInt8 → Option Nat} {c b : Nat} (h : Filled ns k f c) : Filled ns (k + 1) (fun x => if x = key ns k then some b else f x) (if (f (key ns k)).isSome then c else c + 1) := by
  refine ⟨fun s => ?_, ?_⟩
  · by_cases e : s = key ns k
    · subst e
      rw [if_pos rfl]
      exact ⟨fun _ => ⟨k, by omega, rfl⟩, fun _ => rfl⟩
    · simp only [if_neg e]
      rw [h.dom]
      constructor
      · rintro ⟨j, hj, he⟩
        exact ⟨j, by omega, he⟩
      · rintro ⟨j, hj, he⟩
        exact ⟨j, by
          rcases Nat.lt_succ_iff_lt_or_eq.1 hj with h | h
          · exact h
          · subst h; exact absurd he.symm e, he⟩
  · simp only [dist]
    rw [filled_dup h, h.cnt]

/-- the memory behind k rounds: the decoder, the row of pointers -/
structure St (w wr : World) (n k : Nat) (ns : Nat → ByteArray) (mo : Option Nat) (f : List UInt8 → Option Nat) (c : Nat) : Prop where
  dec : Dec wr w.heap.size (w.heap.size + 1) mo f (fun _ => false) c
  below : Below w.heap.size w wr
  mne : mo ≠ some (w.heap.size + 2)
  row : wr.rowIs (w.heap.size + 2) 34 n (ptrRow f ns k)
  fil : Filled ns k f c

theorem row_prof {w : World} {b r n : Nat} {s : List UInt8} {d : Bool} {h : Nat → Value} (hp : Prof w s b d) (hr : w.rowIs r 34 n h) : b ≠ r := by
  rintro rfl
  obtain ⟨cs, h0, _⟩ := hp
  obtain ⟨c, h1, _⟩ := hr
  rw [h0] at h1
  simp at h1

theorem st_start {w w1 : World} {n : Nat} {ns : Nat → ByteArray} (hd : Dec w1 w.heap.size (w.heap.size + 1) none (fun _ => none) (fun _ => false) 0) (hb : Below w.heap.size w w1) (hs : w1.heap.size = w.heap.size + 2) :
    St w (w1.alloc (.cells (madeCells #[.pointer none] n) 34)) n 0 ns none (fun _ => none) 0 := by
  refine ⟨dec_carry hd ((Below.refl _ _).alloc (Nat.le_refl _) _), hb.alloc hb.size _, by simp, ?_, filled_start ns⟩
  rw [← hs]
  exact (World.rowIs_made w1 (.pointer none) n 34).congr (fun i _ => by simp [ptrRow])

theorem st_step {w wr w' : World} {n k b : Nat} {ns : Nat → ByteArray} {mo : Option Nat} {f : List UInt8 → Option Nat} {c : Nat} (h : St w wr n k ns mo f c) (hk : k < n) (hN : Named wr w' w.heap.size (w.heap.size + 1) mo f (fun _ => false) c (key ns k) b) :
    ∃ mo' f' c', St w (w'.setCell ⟨w.heap.size + 2, k, none⟩ (.pointer (some ⟨b, 0, none⟩))) n (k + 1) ns mo' f' c' := by
  obtain ⟨mo', hD, hb, hmo, hsame, hfr⟩ := hN
  have hrl := h.row.lt
  have hrow : w'.rowIs (w.heap.size + 2) 34 n (ptrRow f ns k) := h.row.of_block (hfr _ hrl (by omega) h.mne)
  have hmne : mo' ≠ some (w.heap.size + 2) := by
    rcases hmo with rfl | ⟨j, rfl, hj⟩
    · exact h.mne
    · intro e
      have := Option.some.inj e
      omega
  refine ⟨mo', fun x => if x = key ns k then some b else f x, _, ⟨?_, (h.below.trans hb).setCell (by show w.heap.size ≤ w.heap.size + 2; omega) _, hmne, (hrow.set k _).congr (fun i _ => ?_), filled_step h.fil⟩⟩
  · refine dec_blocks hD (by simp) (fun j _ _ hj => Below.heap_setCell _ _ _ _ ?_)
    rcases hj with rfl | hj | ⟨s, hs⟩
    · show w.heap.size + 1 ≠ w.heap.size + 2
      omega
    · rintro rfl
      exact hmne hj
    · exact row_prof (hD.prof s j hs).2.2 hrow
  · unfold ptrRow
    by_cases e : i = k
    · subst e
      simp [ptrOf]
    · have e1 : (i < k + 1) = (i < k) := by apply propext; omega
      simp only [e, if_false, e1]
      by_cases hi : i < k
      · simp only [hi, if_true]
        by_cases ek : key ns i = key ns k
        · simp only [ek, if_true]
          obtain ⟨b0, h0⟩ := Option.isSome_iff_exists.1 ((h.fil.dom (key ns k)).2 ⟨i, hi, ek⟩)
          rw [h0, hsame b0 h0]
        · simp only [ek, if_false]
      · simp only [hi, if_false]

/-- what the second loop reads of name i: the profile's block, its cells, the table's answer -/
theorem st_read {w wr : World} {n : Nat} {ns : Nat → ByteArray} {mo : Option Nat} {f : List UInt8 → Option Nat} {c : Nat} (h : St w wr n n ns mo f c) {i : Nat} (hi : i < n) :
    ∃ b mB D, mo = some mB ∧ f (key ns i) = some b ∧ wr.ownsMap Yba.prog 9 ptrElem mB c D ∧ D.atKey (.string (key ns i)) (encP none) = encP (some b) ∧
      wr.cell? ⟨w.heap.size + 2, i, none⟩ = some (.pointer (some ⟨b, 0, none⟩)) ∧ wr.cell? ⟨b, 0, none⟩ = some (.string (ns i)) ∧ wr.cell? ⟨b, 15, none⟩ = some (.bool false) ∧ wr.cell? ⟨b, 16, none⟩ = some (.bool false) ∧ wr.cell? ⟨b, 17, none⟩ = some (.bool false) := by
  obtain ⟨b, hb⟩ := Option.isSome_iff_exists.1 ((h.fil.dom (key ns i)).2 ⟨i, hi, rfl⟩)
  obtain ⟨mB, rfl⟩ : ∃ mB, mo = some mB := by
    cases mo with
    | none => have := (h.dec.tab.nil rfl).2 (key ns i); rw [hb] at this; cases this
    | some m => exact ⟨m, rfl⟩
  obtain ⟨D, hD, _, _, hat⟩ := h.dec.tab.map mB rfl
  obtain ⟨_, _, cs, h0, c0, c15, c16, c17⟩ := h.dec.prof _ _ hb
  have hcell : ∀ j v, cs[j]? = some v → wr.cell? ⟨b, j, none⟩ = some v := by
    intro j v hv
    unfold World.cell?
    rw [h0]
    exact hv
  refine ⟨b, mB, D, rfl, hb, hD, by rw [hat, hb], ?_, hcell _ _ (by simpa [key] using c0), hcell _ _ c15, hcell _ _ c16, hcell _ _ c17⟩
  rw [h.row.cell hi]
  simp [ptrRow, hi, hb, ptrOf]

theorem Yba.has54 : ((Yba.prog.info? 54).map (·.size)) = some 32 := by kernel_rfl

/-- two pointers to profiles -/
theorem eql34 (w : World) {s t : List UInt8} {a b : Nat} {d d' : Bool} (ha : Prof w s a d) (hb : Prof w t b d') : (binOp .eql 34 (.pointer (some ⟨a, 0, none⟩)) (.pointer (some ⟨b, 0, none⟩))).run Yba.prog w = .ok (.bool (a == b)) w := by
  obtain ⟨j, hj, hsz⟩ := Option.map_eq_some_iff.1 Yba.has54
  obtain ⟨ca, ha0, _⟩ := ha
  obtain ⟨cb, hb0, _⟩ := hb
  by_cases e : a = b
  · subst e
    have h : ∀ dd : Nat, (Op.equalIn (dd + 1) 34 (.pointer (some ⟨a, 0, none⟩)) (.pointer (some ⟨a, 0, none⟩))).run Yba.prog w = .ok true w := fun dd => by
      simp [Op.equalIn, run_underlying Yba.underlying34, sizeOf, typeInfo, hj, run_sameAddr_same]
    simp only [binOp]
    simp [Op.equal, Op.maxDepth, h 9999]
  · have hne : (⟨a, 0, none⟩ : Addr) ≠ ⟨b, 0, none⟩ := fun h => e (congrArg Addr.block h)
    have h : ∀ dd : Nat, (Op.equalIn (dd + 1) 34 (.pointer (some ⟨a, 0, none⟩)) (.pointer (some ⟨b, 0, none⟩))).run Yba.prog w = .ok false w := fun dd => by
      simp [Op.equalIn, run_underlying Yba.underlying34, sizeOf, typeInfo, hj, hsz, run_sameAddr_other w hne ha0 hb0]
    simp only [binOp]
    simp [Op.equal, Op.maxDepth, h 9999, e]

theorem neq34 (w : World) (a : Addr) : (binOp .neq 34 (.pointer (some a)) (.pointer (some a))).run Yba.prog w = .ok (.bool false) w := by
  obtain ⟨j, hj, _⟩ := Option.map_eq_some_iff.1 Yba.has54
  exact Lib.run_neq_ptr_same w a Yba.underlying34 hj

/-- the pointers of two names are one just if the names are -/
theorem st_pair {w wr : World} {n : Nat} {ns : Nat → ByteArray} {mo : Option Nat} {f : List UInt8 → Option Nat} {c : Nat} (h : St w wr n n ns mo f c) {i j a b : Nat} (ha : f (key ns i) = some a) (hb : f (key ns j) = some b) (q : Nat) :
    (binOp .eql 34 (.pointer (some ⟨a, 0, none⟩)) (.pointer (some ⟨b, 0, none⟩))).run Yba.prog (wr.drewN q) = .ok (.bool ((ns i).toList == (ns j).toList)) (wr.drewN q) := by
  have pa := (h.dec.prof _ _ ha).2.2
  have pb := (h.dec.prof _ _ hb).2.2
  rw [eql34 (wr.drewN q) (prof_block pa rfl) (prof_block pb rfl)]
  congr 2
  cases heq : ((ns i).toList == (ns j).toList) with
  | true =>
    have := key_eq heq
    rw [this, hb] at ha
    simpa using (Option.some.inj ha).symm
  | false =>
    have hk := key_ne heq
    simp only [beq_eq_false_iff_ne, ne_eq]
    rintro rfl
    obtain ⟨cs, h0, c0, _⟩ := pa
    obtain ⟨cs', h0', c0', _⟩ := pb
    rw [h0] at h0'
    simp at h0'
    subst h0'
    rw [c0] at c0'
    simp at c0'
    exact hk c0'
end Go.Proofs.Ybulkthg
