import Derived.Test.YbulktfcSigners
import Derived.Deep.QuietTactic
import Derived.BigQuiet
import Derived.Lib.Builder
namespace Go.Proofs.Ybulktfc
open Go.RowKit

theorem Yba.info34 : (Yba.prog.info? 34).map (fun i => (i.zero, i.size, i.bytes)) = some (some (.pointer none), 1, 8) := by kernel_rfl

/-- a slice of integers that came in, by the index: one form for nil, empty and the rest -/
def View (k : IntKind) (w : World) (a : Option Addr) (n : Nat) (z : Nat → Int) : Prop :=
  ∀ i, i < n → ∃ b off, a = some ⟨b, off, none⟩ ∧ w.cell? ⟨b, off + i, none⟩ = some (.int k (z i))

/-- votes[j] behind m rounds -/
def voteRow (N m j : Nat) : Value := if j < m then .pointer (some ⟨N + 1 + j, 0, none⟩) else .pointer none

/-- the memory behind m rounds of the first loop -/
structure Votes (w wr : World) (n m : Nat) (z : Nat → Int) (r h : Int) : Prop where
  below : Below w.heap.size w wr
  row : wr.rowIs w.heap.size 34 n (voteRow w.heap.size m)
  size : wr.heap.size = w.heap.size + 1 + m
  val : ∀ j, j < m → wr.cell? ⟨w.heap.size + 1 + j, 35, none⟩ = some (.int .i64 (z j))
  rnd : ∀ j, j < m → wr.cell? ⟨w.heap.size + 1 + j, 2, none⟩ = some (.int .u32 r)
  hgt : ∀ j, j < m → wr.cell? ⟨w.heap.size + 1 + j, 1, none⟩ = some (.int .u64 h)

theorem cell_alloc {w : World} {a : Addr} {v : Value} (h : w.cell? a = some v) (o : Obj) : (w.alloc o).cell? a = some v :=
  (World.cell?_of_block (Below.heap_alloc w o a.block (World.block_lt_of_cell? w a h))).trans h
theorem frozen_alloc {w : World} {a : Addr} {v : Value} (h : w.cell? a = some v) (hf : w.frozen? a = false) (o : Obj) : (w.alloc o).frozen? a = false :=
  (World.frozen?_of_block (Below.heap_alloc w o a.block (World.block_lt_of_cell? w a h))).trans hf

theorem votes_start (w : World) (n : Nat) (z : Nat → Int) (r h : Int) : Votes w (w.alloc (.cells (madeCells #[.pointer none] n) 34)) n 0 z r h :=
  ⟨(Below.refl _ _).alloc (Nat.le_refl _) _, (World.rowIs_made w (.pointer none) n 34).congr (fun i _ => by simp [voteRow]), by simp, fun j hj => by omega, fun j hj => by omega, fun j hj => by omega⟩

theorem votes_step {w wr : World} {n k : Nat} {z : Nat → Int} {r h : Int} (H : Votes w wr n k z r h) (hk : k < n) (c : Array Value) (t : TypeId) (h1 : c[1]? = some (.int .u64 h)) (h2 : c[2]? = some (.int .u32 r)) (h35 : c[35]? = some (.int .i64 (z k))) :
    Votes w ((wr.alloc (.cells c t)).setCell ⟨w.heap.size, k, none⟩ (.pointer (some ⟨wr.heap.size, 0, none⟩))) n (k + 1) z r h := by
  have hsz := H.size
  have cellNew : ∀ i v, c[i]? = some v → ((wr.alloc (.cells c t)).setCell ⟨w.heap.size, k, none⟩ (.pointer (some ⟨wr.heap.size, 0, none⟩))).cell? ⟨wr.heap.size, i, none⟩ = some v := by
    intro i v hv
    rw [World.cell?_of_block (w := wr.alloc (.cells c t)) (Below.heap_setCell _ _ _ _ (by show wr.heap.size ≠ w.heap.size; omega))]
    unfold World.cell?
    rw [Deep.blk_alloc_new]
    exact hv
  have cellOld : ∀ j i v, j < k → wr.cell? ⟨w.heap.size + 1 + j, i, none⟩ = some v → ((wr.alloc (.cells c t)).setCell ⟨w.heap.size, k, none⟩ (.pointer (some ⟨wr.heap.size, 0, none⟩))).cell? ⟨w.heap.size + 1 + j, i, none⟩ = some v := by
    intro j i v hj hv
    rw [World.cell?_of_block (w := wr.alloc (.cells c t)) (Below.heap_setCell _ _ _ _ (by show w.heap.size + 1 + j ≠ w.heap.size; omega))]
    exact cell_alloc hv _
  refine ⟨(H.below.alloc (by omega) _).setCell (Nat.le_refl _) _, ((H.row.alloc _).set k _).congr (fun i _ => ?_), by simp; omega, fun j hj => ?_, fun j hj => ?_, fun j hj => ?_⟩
  · unfold voteRow
    by_cases e : i = k
    · subst e; simp [hsz]
    · have : (i < k + 1) = (i < k) := by apply propext; omega
      simp [e, this]
  all_goals
    by_cases e : j = k
    · subst e; rw [← hsz]; exact cellNew _ _ (by assumption)
    · first | exact cellOld j _ _ (by omega) (H.val j (by omega)) | exact cellOld j _ _ (by omega) (H.rnd j (by omega)) | exact cellOld j _ _ (by omega) (H.hgt j (by omega))

/-- a Commit's zero cells -/
def commitZero : Array Value := Array.replicate 64 (.int .u8 0) ++ #[.int .u64 0] ++ Array.replicate 32 (.int .u8 0) ++ #[.slice none 0 0, .slice none 0 0, .pointer none, .int .u32 0, .slice none 0 0, .slice none 0 0]
theorem zero47 (w : World) : (zeroValue 47).run Yba.prog w = .ok (.agg commitZero) w := by kernel_rfl
theorem commitZero_size : commitZero.size = 103 := by simp [commitZero]

/-- the memory behind the call of Signers: the commit in block cB, 'got' in block gB -/
structure Held (w wr : World) (cB gB n : Nat) (z : Nat → Int) (r h : Int) (g : Nat → Int) : Prop where
  below : Below w.heap.size w wr
  got : wr.rowIs gB 3 n (fun j => .int .i64 (g j))
  row : wr.rowIs w.heap.size 34 n (voteRow w.heap.size n)
  crnd : wr.cell? ⟨cB, 100, none⟩ = some (.int .u32 r)
  cpre : wr.cell? ⟨cB, 101, none⟩ = some (.slice (some ⟨w.heap.size, 0, none⟩) n n)
  val : ∀ j, j < n → wr.cell? ⟨w.heap.size + 1 + j, 35, none⟩ = some (.int .i64 (z j))
  rnd : ∀ j, j < n → wr.cell? ⟨w.heap.size + 1 + j, 2, none⟩ = some (.int .u32 r)
  hgt : ∀ j, j < n → wr.cell? ⟨w.heap.size + 1 + j, 1, none⟩ = some (.int .u64 h)
  lt1 : w.heap.size + 1 + n ≤ cB
  lt2 : cB < gB

theorem held_heap {w wr wq : World} {cB gB n : Nat} {z : Nat → Int} {r h : Int} {g : Nat → Int} (H : Held w wr cB gB n z r h g) (e : Below wr.heap.size wr wq) : Held w wq cB gB n z r h g := by
  have hs := H.below.size
  have hg := H.got.lt
  have h1 := H.lt1
  have h2 := H.lt2
  refine ⟨H.below.trans (e.mono hs), H.got.of_block (e.block _ hg), H.row.of_block (e.block _ H.row.lt), (e.cell (World.block_lt_of_cell? wr _ H.crnd)).trans H.crnd, (e.cell (World.block_lt_of_cell? wr _ H.cpre)).trans H.cpre, ?_, ?_, ?_, h1, h2⟩
  · exact fun j hj => (e.cell (World.block_lt_of_cell? wr _ (H.val j hj))).trans (H.val j hj)
  · exact fun j hj => (e.cell (World.block_lt_of_cell? wr _ (H.rnd j hj))).trans (H.rnd j hj)
  · exact fun j hj => (e.cell (World.block_lt_of_cell? wr _ (H.hgt j hj))).trans (H.hgt j hj)

theorem held_set {w wr : World} {cB gB n : Nat} {z : Nat → Int} {r h : Int} {g : Nat → Int} (H : Held w wr cB gB n z r h g) (k : Nat) (x : Int) : ∃ g', Held w (wr.setCell ⟨gB, k, none⟩ (.int .i64 x)) cB gB n z r h g' := by
  have hs := H.below.size
  have hr := H.row.lt
  have h1 := H.lt1
  have h2 := H.lt2
  have other : ∀ b i, b ≠ gB → (wr.setCell ⟨gB, k, none⟩ (.int .i64 x)).cell? ⟨b, i, none⟩ = wr.cell? ⟨b, i, none⟩ := fun b i hb => World.cell?_of_block (w := wr) (Below.heap_setCell _ _ _ _ hb)
  refine ⟨fun j => if j = k then x else g j, H.below.setCell (by show w.heap.size ≤ gB; omega) _, (H.got.set k _).congr (fun i _ => by split <;> rfl), H.row.setOther (by show w.heap.size ≠ gB; omega) _, ?_, ?_, ?_, ?_, ?_, h1, h2⟩
  · rw [other _ _ (by omega)]; exact H.crnd
  · rw [other _ _ (by omega)]; exact H.cpre
  · intro j hj; rw [other _ _ (by omega)]; exact H.val j hj
  · intro j hj; rw [other _ _ (by omega)]; exact H.rnd j hj
  · intro j hj; rw [other _ _ (by omega)]; exact H.hgt j hj

theorem held_start {w wr w2 : World} {n : Nat} {z : Nat → Int} {r h : Int} (H : Votes w wr n n z r h) (c : Array Value) (t : TypeId) (h100 : c[100]? = some (.int .u32 r)) (h101 : c[101]? = some (.slice (some ⟨w.heap.size, 0, none⟩) n n))
    (hrow : w2.rowIs (wr.heap.size + 1) 3 n (fun j => .int .i64 (z j))) (hb : Below (wr.heap.size + 1) (wr.alloc (.cells c t)) w2) : Held w w2 wr.heap.size (wr.heap.size + 1) n z r h z := by
  have hs := H.size
  have hc : ∀ i v, c[i]? = some v → w2.cell? ⟨wr.heap.size, i, none⟩ = some v := by
    intro i v hv
    rw [hb.cell (by show wr.heap.size < wr.heap.size + 1; omega)]
    unfold World.cell?
    rw [Deep.blk_alloc_new]
    exact hv
  have hB : Below wr.heap.size wr w2 := ((Below.refl wr.heap.size wr).alloc (Nat.le_refl _) _).trans (hb.mono (by omega))
  exact ⟨H.below.trans (hB.mono H.below.size), hrow, H.row.of_block (hB.block _ H.row.lt), hc _ _ h100, hc _ _ h101,
    fun j hj => (hB.cell (World.block_lt_of_cell? wr _ (H.val j hj))).trans (H.val j hj), fun j hj => (hB.cell (World.block_lt_of_cell? wr _ (H.rnd j hj))).trans (H.rnd j hj),
    fun j hj => (hB.cell (World.block_lt_of_cell? wr _ (H.hgt j hj))).trans (H.hgt j hj), by omega, by omega⟩

/-- the commit's cells -/
def commitCells (r : Int) (v : Value) : Array Value := (commitZero.setIfInBounds 100 (.int .u32 r)).setIfInBounds 101 v
theorem commit100 (r : Int) (v : Value) : (commitCells r v)[100]? = some (.int .u32 r) := by simp [commitCells, commitZero_size]
theorem commit101 (r : Int) (v : Value) : (commitCells r v)[101]? = some v := by simp [commitCells, commitZero_size]

theorem signers_at {w wr : World} {n : Nat} {z : Nat → Int} {r h : Int} (hn : n ≤ 1024) (H : Votes w wr n n z r h) :
    Calls Yba.prog 11 #[.pointer (some ⟨wr.heap.size, 0, none⟩)] (wr.alloc (.cells ((commitZero.setIfInBounds 100 (.int .u32 r)).setIfInBounds 101 (.slice (some ⟨w.heap.size, 0, none⟩) n n)) 47)) fun e w2 =>
      e = .returned (.slice (some ⟨wr.heap.size + 1, 0, none⟩) n n) ∧ Held w w2 wr.heap.size (wr.heap.size + 1) n z r h z := by
  have hc : ∀ i v, (commitCells r (.slice (some ⟨w.heap.size, 0, none⟩) n n))[i]? = some v → (wr.alloc (.cells (commitCells r (.slice (some ⟨w.heap.size, 0, none⟩) n n)) 47)).cell? ⟨wr.heap.size, i, none⟩ = some v := by
    intro i v hv
    unfold World.cell?
    rw [Deep.blk_alloc_new]
    exact hv
  have hsz : (wr.alloc (.cells (commitCells r (.slice (some ⟨w.heap.size, 0, none⟩) n n)) 47)).heap.size = wr.heap.size + 1 := by simp
  refine (signers_any wr.heap.size w.heap.size n (fun i => w.heap.size + 1 + i) z (wr.alloc (.cells (commitCells r (.slice (some ⟨w.heap.size, 0, none⟩) n n)) 47)) hn (hc _ _ (commit101 _ _)) (fun i hi => ?_) (fun i hi => cell_alloc (H.val i hi) _)).mono ?_
  · have := cell_alloc (H.row.cell hi) (.cells (commitCells r (.slice (some ⟨w.heap.size, 0, none⟩) n n)) 47)
    simpa [voteRow, hi] using this
  · rintro e w2 ⟨rfl, hrow, hb, _⟩
    rw [hsz] at hrow hb ⊢
    exact ⟨rfl, held_start H _ 47 (commit100 _ _) (commit101 _ _) hrow hb⟩

theorem Yba.has38 : (Yba.prog.info? 38).isSome = true := by kernel_rfl
theorem neq34 (w : World) (a : Addr) : (binOp .neq 34 (.pointer (some a)) (.pointer (some a))).run Yba.prog w = .ok (.bool false) w := by
  obtain ⟨j, hj⟩ := Option.isSome_iff_exists.1 Yba.has38
  exact Lib.run_neq_ptr_same w a Yba.underlying34 hj

set_option maxHeartbeats 400000 in
set_option maxRecDepth 100000 in
theorem val_any (ao : Option Addr) (n cap : Nat) (z : Nat → Int) (r h : Int) (w : World) (hn : n ≤ 1024) (hv : View .i64 w ao n z) :
    Calls Yba.prog 5 #[.slice ao n cap, .int .u32 r, .int .u64 h] w fun e w' => e = .returned (.bool true) ∧ Below w.heap.size w w' := by
  have hmk := run_make_row' (P := Yba.prog) 33 34 (.pointer none) 8 Yba.underlying33 Yba.info34 rfl .i64 .i64 n (by omega) (by omega)
  have hz47 := zero47
  have q30 : ∀ (w : World) (a : Option Addr) (n c n' c' : Nat), (binOp .eql 30 (.slice a n c) (.slice none n' c')).run Yba.prog w = .ok (.bool a.isNone) w := fun w a n c n' c' => Lib.run_eql_slice_nil w _ _ a n c n' c' Yba.underlying30
  have hzs := commitZero_size
  go_enter Yba.func5, Yba.ntmps5
  go_wp2
  go_loopw [22] (fun i wr => ∃ k : Nat, k ≤ n ∧ i = .int .i64 k ∧ Votes w wr n k z r h) (fun i _ => n - (intOf i).toNat)
  case atStart => exact ⟨0, Nat.zero_le _, rfl, votes_start w n z r h⟩
  case round =>
    obtain ⟨k, hk, rfl, hV⟩ := hrel
    by_cases hlt : k < n
    · obtain ⟨b, off, rfl, hcell⟩ := hv k hlt
      have hbB : b < w.heap.size := World.block_lt_of_cell? w _ hcell
      have g1 : wr.cell? ⟨b, off + k, none⟩ = some (.int .i64 (z k)) := (hV.below.cell hbB).trans hcell
      have g3 := cell_alloc (hV.row.cell hlt)
      have g4 := frozen_alloc (hV.row.cell hlt) (hV.row.frozen k)
      have S := fun c => votes_step hV hlt c 38
      clear hcell hV hv hmk
      go_wp2
      go_roundw
      case rel => exact ⟨k + 1, by omega, by go_num, S _ rfl rfl rfl⟩
      case measure => simp [intOf]; omega
    · have hkn : k = n := by omega
      subst hkn
      obtain ⟨cB, hq⟩ : ∃ c, wr.heap.size = c := ⟨_, rfl⟩
      have C := signers_at hn hV
      rw [hq] at C
      go_wp2_with (go_at_call 11; refine C.mono ?_; rintro e w2 ⟨rfl, hH⟩)
      clear C hmk hV hk hlt
      go_loopw [56] (fun i wr => ∃ m : Nat, m ≤ k ∧ i = .int .i64 m ∧ Held w wr cB (cB + 1) k z r h z) (fun i _ => k - (intOf i).toNat)
      case atStart => exact ⟨0, Nat.zero_le _, rfl, hH⟩
      case round =>
        clear hH
        obtain ⟨m, hm, rfl, hH⟩ := hrel
        by_cases hlt : m < k
        · obtain ⟨b, off, rfl, hcell⟩ := hv m hlt
          have hbB : b < w.heap.size := World.block_lt_of_cell? w _ hcell
          have g1 : wr.cell? ⟨b, off + m, none⟩ = some (.int .i64 (z m)) := (hH.below.cell hbB).trans hcell
          have g2 := hH.got.cell hlt
          have hli : (m : Int) < (k : Int) := by omega
          have hl0 : (0 : Int) ≤ (m : Int) := by omega
          clear hcell
          go_wp2
          go_quiet (fail)
          go_wp2
          go_roundw
          case rel => exact ⟨m + 1, by omega, by go_num, held_heap hH (below_drewN (Below.refl _ _) _)⟩
          case measure => simp [intOf]; omega
        · go_wp2
          go_loopw [71] (fun i wr => ∃ m : Nat, m ≤ k ∧ i = .int .i64 m ∧ ∃ g, Held w wr cB (cB + 1) k z r h g) (fun i _ => k - (intOf i).toNat)
          case atStart => exact ⟨0, Nat.zero_le _, rfl, z, hH⟩
          case round =>
            clear hH hm hlt
            obtain ⟨m, hm, rfl, g, hH⟩ := hrel
            by_cases hlt : m < k
            · have g2 := hH.got.cell hlt
              have g3 := hH.got.frozen m
              have S := held_set hH m
              clear hH
              go_wp2
              go_roundw
              case rel => exact ⟨m + 1, by omega, by go_num, S _⟩
              case measure => simp [intOf]; omega
            · have g4 := hH.crnd
              have g5 := hH.cpre
              go_wp2
              go_loopw [101] (fun i wr => ∃ m : Nat, m ≤ k ∧ i = .int .i64 m ∧ ∃ g, Held w wr cB (cB + 1) k z r h g) (fun i _ => k - (intOf i).toNat)
              case atStart => exact ⟨0, Nat.zero_le _, rfl, _, hH⟩
              case round =>
                clear hH hm hlt g4 g5
                obtain ⟨m, hm, rfl, g, hH⟩ := hrel
                by_cases hlt : m < k
                · obtain ⟨b, off, rfl, hcell⟩ := hv m hlt
                  have hbB : b < w.heap.size := World.block_lt_of_cell? w _ hcell
                  have g1 : wr.cell? ⟨b, off + m, none⟩ = some (.int .i64 (z m)) := (hH.below.cell hbB).trans hcell
                  have g2 : wr.cell? ⟨w.heap.size, m, none⟩ = some (.pointer (some ⟨w.heap.size + 1 + m, 0, none⟩)) := by rw [hH.row.cell hlt]; simp [voteRow, hlt]
                  have g3 := hH.cpre
                  have g4 := hH.val m hlt
                  have g5 := hH.rnd m hlt
                  have g6 := hH.hgt m hlt
                  have hli : (m : Int) < (k : Int) := by omega
                  have hl0 : (0 : Int) ≤ (m : Int) := by omega
                  have hnq := neq34
                  clear hcell hz47 hzs q30 hq
                  go_wp2
                  go_quiet (fail)
                  go_wp2
                  go_roundw
                  case rel => exact ⟨m + 1, by omega, by go_num, g, held_heap hH (below_drewN (Below.refl _ _) _)⟩
                  case measure => simp [intOf]; omega
                · go_wp2
                  go_ret
                  exact ⟨rfl, hH.below⟩
end Go.Proofs.Ybulktfc
