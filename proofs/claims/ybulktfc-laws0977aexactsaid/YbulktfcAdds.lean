import Derived.Test.YbulktfcOwn
import Derived.Deep.QuietTactic
import Derived.BigQuiet
namespace Go.Proofs.Ybulktfc
open Go.RowKit

theorem Yba.info5 : (Yba.prog.info? 5).map (fun i => (i.zero, i.size, i.bytes)) = some (some (.int .u8 0), 1, 1) := by kernel_rfl

/-- byte i of a string, as a number -/
def strB (s : ByteArray) (i : Nat) : Int := if h : i < s.size then (s[i].toNat : Int) else 0

theorem seen_one (w : World) (x : Int) (t : TypeId) : Seen .u8 (w.alloc (.cells #[.int .u8 x] t)) (some ⟨w.heap.size, 0, none⟩) 1 (fun _ => x) := by
  intro i hi
  obtain rfl : i = 0 := by omega
  refine ⟨w.heap.size, 0, rfl, ?_⟩
  unfold World.cell?
  rw [Deep.blk_alloc_new]
  rfl

/-- what one append of one byte does to the loop's relation -/
theorem add_step {w wr w' : World} {base g n cap k g' cap' : Nat} {zs : List Int} {y : Nat → Int} {x : Int} {o : Obj} (hx : x = y k) (hB : base ≤ wr.heap.size) (hb : Below base w wr) (h0 : Own wr base g (n + k) cap (zs ++ (List.range k).map y))
    (h1 : Own w' base g' (n + k + 1) cap' (zs ++ (List.range k).map y ++ (List.range 1).map fun _ => x)) (h2 : (wr.alloc o).grownBy w' (some g)) :
    Own w' base g' (n + (k + 1)) cap' (zs ++ (List.range (k + 1)).map y) ∧ Below base w w' := by
  refine ⟨?_, (hb.alloc hB o).grown h2 (by simp; omega) (fun j hj => by cases hj; exact h0.base)⟩
  rw [List.range_succ, List.map_append, ← List.append_assoc]
  subst hx
  exact h1

set_option maxHeartbeats 400000 in
theorem add_any (base g n cap : Nat) (zs : List Int) (a : Option Addr) (m c : Nat) (y : Nat → Int) (w : World) (hm : m ≤ 1024) (hn : n ≤ 100000) (hown : Own w base g n cap zs) (W : World) (hW : Below W.heap.size W w) (hWB : W.heap.size ≤ base) (hs : Seen .u8 W a m y) :
    Calls Yba.prog 7 #[.slice (some ⟨g, 0, none⟩) n cap, .slice a m c] w fun e w' => ∃ g' cap', e = .returned (.slice (some ⟨g', 0, none⟩) (n + m) cap') ∧ Own w' base g' (n + m) cap' (zs ++ (List.range m).map y) ∧ Below base w w' := by
  obtain ⟨i0, hi, hz0, hz1, hz2⟩ := info_parts Yba.info5
  go_enter Yba.func7, Yba.ntmps7
  go_wp2
  go_loopw [0, 5] (fun v i wr => ∃ k g' cap', k ≤ m ∧ i = .int .i64 (k : Nat) ∧ v = .slice (some ⟨g', 0, none⟩) (n + k) cap' ∧ Own wr base g' (n + k) cap' (zs ++ (List.range k).map y) ∧ Below base w wr) (fun _ i _ => m - (intOf i).toNat)
  case atStart => exact ⟨0, g, cap, Nat.zero_le _, rfl, rfl, by simpa using hown, Below.refl _ _⟩
  case round =>
    obtain ⟨k, g', cap', hk, rfl, rfl, ho, hb⟩ := hrel
    by_cases hlt : k < m
    · obtain ⟨b, off, rfl, hcell⟩ := hs k hlt
      have g1 : wr.cell? ⟨b, off + k, none⟩ = some (.int .u8 (y k)) := ((hW.trans (hb.mono hWB)).cell (World.block_lt_of_cell? W _ hcell)).trans hcell
      clear hcell
      go_wp2_with (at_builtin; refine wpList_append_seen _ rfl (.tmp 12) (.tmp 17) 23 rfl 5 i0 Yba.underlying23 hi hz0 hz1 hz2 rfl (own_alloc ho _) rfl (seen_one _ _ _) (by omega) ?_; intro g2 cap2 w2 h1 h2 h3)
      have S := add_step rfl (Nat.le_of_lt (Nat.lt_of_le_of_lt ho.base ho.lt)) hb ho h1 h2
      clear h1 h2 ho hb
      go_wp2
      go_roundw
      case rel => exact ⟨k + 1, g2, cap2, by omega, by go_num, rfl, S.1, S.2⟩
      case measure => simp [intOf]; omega
    · have hkn : k = m := by omega
      subst hkn
      go_wp2
      go_ret
      exact ⟨g', cap', rfl, ho, hb⟩

set_option maxHeartbeats 400000 in
theorem addstr_any (base g n cap : Nat) (zs : List Int) (s : ByteArray) (w : World) (hm : s.size ≤ 1024) (hn : n ≤ 100000) (hown : Own w base g n cap zs) :
    Calls Yba.prog 6 #[.slice (some ⟨g, 0, none⟩) n cap, .string s] w fun e w' => ∃ g' cap', e = .returned (.slice (some ⟨g', 0, none⟩) (n + s.size) cap') ∧ Own w' base g' (n + s.size) cap' (zs ++ (List.range s.size).map (strB s)) ∧ Below base w w' := by
  obtain ⟨i0, hi, hz0, hz1, hz2⟩ := info_parts Yba.info5
  go_enter Yba.func6, Yba.ntmps6
  go_wp2
  go_loopw [0, 5] (fun v i wr => ∃ k g' cap', k ≤ s.size ∧ i = .int .i64 (k : Nat) ∧ v = .slice (some ⟨g', 0, none⟩) (n + k) cap' ∧ Own wr base g' (n + k) cap' (zs ++ (List.range k).map (strB s)) ∧ Below base w wr) (fun _ i _ => s.size - (intOf i).toNat)
  case atStart => exact ⟨0, g, cap, Nat.zero_le _, rfl, rfl, by simpa using hown, Below.refl _ _⟩
  case round =>
    obtain ⟨k, g', cap', hk, rfl, rfl, ho, hb⟩ := hrel
    by_cases hlt : k < s.size
    · go_wp2_with (at_builtin; refine wpList_append_seen _ rfl (.tmp 12) (.tmp 16) 23 rfl 5 i0 Yba.underlying23 hi hz0 hz1 hz2 rfl (own_alloc ho _) rfl (seen_one _ _ _) (by omega) ?_; intro g2 cap2 w2 h1 h2 h3)
      have S := add_step (by simp [strB, hlt]) (Nat.le_of_lt (Nat.lt_of_le_of_lt ho.base ho.lt)) hb ho h1 h2
      clear h1 h2 ho hb
      go_wp2
      go_roundw
      case rel => exact ⟨k + 1, g2, cap2, by omega, by go_num, rfl, S.1, S.2⟩
      case measure => simp [intOf]; omega
    · have hkn : k = s.size := by omega
      subst hkn
      go_wp2
      go_ret
      exact ⟨g', cap', rfl, ho, hb⟩

set_option maxHeartbeats 400000 in
/-- two slices of the same bytes -/
theorem same_any (a b : Option Addr) (n c d : Nat) (z : Nat → Int) (w : World) (hn : n ≤ 1000000) (ha : Seen .u8 w a n z) (hb : Seen .u8 w b n z) :
    Calls Yba.prog 9 #[.slice a n c, .slice b n d] w fun e w' => e = .returned (.bool true) ∧ ∃ q, w' = w.drewN q := by
  have hd : ((n : Int) != (n : Int)) = false := by simp
  go_enter Yba.func9, Yba.ntmps9
  go_wp2
  go_loopw [5] (fun i wr => ∃ k : Nat, k ≤ n ∧ i = .int .i64 (k : Nat) ∧ ∃ q, wr = w.drewN q) (fun i _ => n - (intOf i).toNat)
  case atStart => exact ⟨0, Nat.zero_le _, rfl, 0, rfl⟩
  case round =>
    obtain ⟨k, hk, rfl, q, rfl⟩ := hrel
    by_cases hlt : k < n
    · obtain ⟨b1, o1, rfl, h1⟩ := ha k hlt
      obtain ⟨b2, o2, rfl, h2⟩ := hb k hlt
      have hli : (k : Int) < (n : Int) := by omega
      have hl0 : (0 : Int) ≤ (k : Int) := by omega
      go_wp2
      go_quiet (fail)
      go_wp2
      go_roundw
      case rel => exact ⟨k + 1, by omega, by go_num, _, rfl⟩
      case measure => simp [intOf]; omega
    · go_wp2
      go_ret
      exact ⟨rfl, q, rfl⟩

def cloneRow (z : Nat → Int) (k j : Nat) : Value := .int .u8 (if j < k then z j else 0)

theorem clone_step {z : Nat → Int} {n k : Nat} {w wr : World} (hrow : wr.rowIs w.heap.size 5 n (cloneRow z k)) (hb : Below w.heap.size w wr) :
    (wr.setCell ⟨w.heap.size, k, none⟩ (.int .u8 (z k))).rowIs w.heap.size 5 n (cloneRow z (k + 1)) ∧ Below w.heap.size w (wr.setCell ⟨w.heap.size, k, none⟩ (.int .u8 (z k))) := by
  refine ⟨(hrow.set k _).congr (fun i _ => ?_), hb.setCell (Nat.le_refl _) _⟩
  unfold cloneRow
  by_cases e : i = k
  · subst e; simp
  · have : (i < k + 1) = (i < k) := by apply propext; omega
    simp [e, this]

set_option maxHeartbeats 400000 in
/-- a clone of what came in -/
theorem clone_any (a : Option Addr) (n c : Nat) (z : Nat → Int) (w : World) (hn : n ≤ 1024) (W : World) (hW : Below W.heap.size W w) (ha : Seen .u8 W a n z) :
    Calls Yba.prog 10 #[.slice a n c] w fun e w' => ∃ a' c', e = .returned (.slice a' n c') ∧ Seen .u8 w' a' n z ∧ Below w.heap.size w w' := by
  have q23 : ∀ (w : World) (a : Option Addr) (n c n' c' : Nat), (binOp .eql 23 (.slice a n c) (.slice none n' c')).run Yba.prog w = .ok (.bool a.isNone) w := fun w a n c n' c' => Lib.run_eql_slice_nil w _ _ a n c n' c' Yba.underlying23
  have hmk := run_make_row' (P := Yba.prog) 23 5 (.int .u8 0) 1 Yba.underlying23 Yba.info5 rfl .i64 .i64 n (by omega) (by omega)
  cases a with
  | none =>
    obtain rfl : n = 0 := by
      rcases Nat.eq_zero_or_pos n with h | h
      · exact h
      · obtain ⟨_, _, h, _⟩ := ha 0 h; cases h
    go_enter Yba.func10, Yba.ntmps10
    go_wp2
    go_ret
    exact ⟨none, 0, rfl, fun i hi => by omega, Below.refl _ _⟩
  | some x =>
    go_enter Yba.func10, Yba.ntmps10
    go_wp2
    go_loopw [4] (fun i wr => ∃ k : Nat, k ≤ n ∧ i = .int .i64 (k : Nat) ∧ wr.rowIs w.heap.size 5 n (cloneRow z k) ∧ Below w.heap.size w wr) (fun i _ => n - (intOf i).toNat)
    case atStart => exact ⟨0, Nat.zero_le _, rfl, (World.rowIs_made w (.int .u8 0) n 5).congr (fun i _ => by simp [cloneRow]), (Below.refl _ _).alloc (Nat.le_refl _) _⟩
    case round =>
      obtain ⟨k, hk, rfl, hrow, hb⟩ := hrel
      by_cases hlt : k < n
      · obtain ⟨b, off, hx, hcell⟩ := ha k hlt
        obtain rfl : x = ⟨b, off, none⟩ := by simpa using hx
        have g1 : wr.cell? ⟨b, off + k, none⟩ = some (.int .u8 (z k)) := ((hW.trans (hb.mono hW.size)).cell (World.block_lt_of_cell? W _ hcell)).trans hcell
        have g3 := hrow.cell hlt
        have g4 := hrow.frozen k
        have S := clone_step hrow hb
        clear hcell hrow hb hmk q23 hx
        go_wp2
        go_roundw
        case rel => exact ⟨k + 1, by omega, by go_num, S.1, S.2⟩
        case measure => simp [intOf]; omega
      · have hkn : k = n := by omega
        subst hkn
        go_wp2
        go_ret
        refine ⟨some ⟨w.heap.size, 0, none⟩, k, rfl, fun i hi => ⟨w.heap.size, 0, rfl, ?_⟩, hb⟩
        rw [Nat.zero_add, hrow.cell hi]
        simp [cloneRow, hi]
end Go.Proofs.Ybulktfc
