import Derived.Test.YbulktfcRows
import Derived.WalkKit
import Derived.WalkSpells
import Derived.WalkLawsBesides
import Derived.Deep.OwnRows
namespace Go.Proofs.Ybulktfc
open Go.RowKit

theorem Yba.info3 : (Yba.prog.info? 3).map (fun i => (i.zero, i.size, i.bytes)) = some (some (.int .i64 0), 1, 8) := by kernel_rfl

/-- the row of 'signers' behind k rounds -/
def sigRow (z : Nat → Int) (k j : Nat) : Value := .int .i64 (if j < k then z j else 0)

theorem sig_step {z : Nat → Int} {n k : Nat} {w wr : World} (hrow : wr.rowIs w.heap.size 3 n (sigRow z k)) (hb : Below w.heap.size w wr) (hsz : wr.heap.size = w.heap.size + 1) :
    (wr.setCell ⟨w.heap.size, k, none⟩ (.int .i64 (z k))).rowIs w.heap.size 3 n (sigRow z (k + 1)) ∧ Below w.heap.size w (wr.setCell ⟨w.heap.size, k, none⟩ (.int .i64 (z k))) ∧ (wr.setCell ⟨w.heap.size, k, none⟩ (.int .i64 (z k))).heap.size = w.heap.size + 1 := by
  refine ⟨(hrow.set k _).congr (fun i _ => ?_), hb.setCell (Nat.le_refl _) _, by simpa using hsz⟩
  unfold sigRow
  by_cases e : i = k
  · subst e; simp
  · have : (i < k + 1) = (i < k) := by apply propext; omega
    simp [e, this]

set_option maxHeartbeats 400000 in
theorem signers_any (cb vb n : Nat) (pb : Nat → Nat) (z : Nat → Int) (w : World) (hn : n ≤ 1024)
    (hc : w.cell? ⟨cb, 101, none⟩ = some (.slice (some ⟨vb, 0, none⟩) n n))
    (hv : ∀ i, i < n → w.cell? ⟨vb, i, none⟩ = some (.pointer (some ⟨pb i, 0, none⟩)))
    (hp : ∀ i, i < n → w.cell? ⟨pb i, 35, none⟩ = some (.int .i64 (z i))) :
    Calls Yba.prog 11 #[.pointer (some ⟨cb, 0, none⟩)] w fun e w' =>
      e = .returned (.slice (some ⟨w.heap.size, 0, none⟩) n n) ∧ w'.rowIs w.heap.size 3 n (fun j => .int .i64 (z j)) ∧ Below w.heap.size w w' ∧ w'.heap.size = w.heap.size + 1 := by
  have hmk := run_make_row' (P := Yba.prog) 30 3 (.int .i64 0) 8 Yba.underlying30 Yba.info3 rfl .i64 .i64 n (by omega) (by omega)
  have hcb : cb < w.heap.size := World.block_lt_of_cell? w _ hc
  have hc1 : ∀ o, (w.alloc o).cell? ⟨cb, 101, none⟩ = some (.slice (some ⟨vb, 0, none⟩) n n) := fun o => by rw [← hc]; exact World.cell?_of_block (Below.heap_alloc w o cb hcb)
  go_enter Yba.func11, Yba.ntmps11
  go_wp2
  go_loopw [17] (fun i wr => ∃ k : Nat, k ≤ n ∧ i = .int .i64 k ∧ wr.rowIs w.heap.size 3 n (sigRow z k) ∧ Below w.heap.size w wr ∧ wr.heap.size = w.heap.size + 1) (fun i _ => n - (intOf i).toNat)
  case atStart => exact ⟨0, Nat.zero_le _, rfl, (World.rowIs_made w (.int .i64 0) n 3).congr (fun i _ => by simp [sigRow]), (Below.refl _ _).alloc (Nat.le_refl _) _, by simp⟩
  case round =>
    obtain ⟨k, hk, rfl, hrow, hb, hsz⟩ := hrel
    by_cases hlt : k < n
    · have g1 : wr.cell? ⟨vb, k, none⟩ = some (.pointer (some ⟨pb k, 0, none⟩)) := (hb.cell (World.block_lt_of_cell? w _ (hv k hlt))).trans (hv k hlt)
      have g2 : wr.cell? ⟨pb k, 35, none⟩ = some (.int .i64 (z k)) := (hb.cell (World.block_lt_of_cell? w _ (hp k hlt))).trans (hp k hlt)
      have g3 := hrow.cell hlt
      have g4 := hrow.frozen k
      have S := sig_step hrow hb hsz
      clear hrow hb hsz hc hv hp hc1 hmk
      go_wp2
      go_roundw
      case rel => exact ⟨k + 1, by omega, by go_num, S.1, S.2.1, S.2.2⟩
      case measure => simp [intOf]; omega
    · have hkn : k = n := by omega
      subst hkn
      go_wp2
      go_ret
      exact ⟨rfl, hrow.congr (fun i hi => by simp [sigRow, hi]), hb, hsz⟩
end Go.Proofs.Ybulktfc
