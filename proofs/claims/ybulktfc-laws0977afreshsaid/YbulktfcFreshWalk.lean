import Derived.Test.YbulktfcTranscript
namespace Go.Proofs.Ybulktfc
open Go.RowKit

theorem Yba.size22 : (Yba.prog.info? 22).map (·.size) = some 32 := by kernel_rfl

theorem own_set {w : World} {base g n cap : Nat} {zs : List Int} (h : Own w base g n cap zs) {k : Nat} (hk : k < n) (x : Int) : Own (w.setCell ⟨g, k, none⟩ (.int .u8 x)) base g n cap (zs.set k x) := by
  have hl := h.len
  have hle := h.le
  refine ⟨by simpa using hl, h.base, by simpa using h.lt, h.le, h.max, fun i hi => ?_, fun i hi => ⟨?_, ?_⟩⟩
  · by_cases e : i = k
    · subst e
      rw [World.cell?_setCell_same _ _ _ (h.cell i hi)]
      simp [List.getD, hl, hi]
    · rw [World.cell?_setCell_other _ _ _ _ (fun h => e (congrArg Addr.off h).symm), h.cell i hi]
      simp [List.getD, show k ≠ i by omega]
  · by_cases e : i = k
    · subst e
      rw [World.cell?_setCell_same _ _ _ (h.cell i hk)]
      rfl
    · rw [World.cell?_setCell_other _ _ _ _ (fun h => e (congrArg Addr.off h).symm)]
      exact (h.there i hi).1
  · rw [World.frozen?_setCell]
    exact (h.there i hi).2

theorem load_box {w w' : World} {net : Array Value} (hb : Below (w.alloc (.cells net 22)).heap.size (w.alloc (.cells net 22)) w') : w'.heap[w.heap.size]? = some (.cells net 22 (0, 0)) :=
  (hb.block w.heap.size (by simp)).trans (Deep.blk_alloc_new w _)

theorem transcript_at (net : Array Value) (role : ByteArray) (pa : Nat → Option Addr) (pl pc : Nat → Nat) (py : Nat → Nat → Int) (nz : Nat → Int) (w : World) (hnz : ∀ i, i < 32 → net[i]? = some (.int .u8 (nz i)))
    (hr : role.size ≤ 1024) (hpl : ∀ j, j < 4 → pl j ≤ 1024) (W : World) (hW : Below W.heap.size W w) (hs : ∀ j, j < 4 → Seen .u8 W (pa j) (pl j) (py j)) :
    Calls Yba.prog 8 #[.agg net, .string role, .slice (pa 0) (pl 0) (pc 0), .slice (pa 1) (pl 1) (pc 1), .slice (pa 2) (pl 2) (pc 2), .slice (pa 3) (pl 3) (pc 3)] w fun e w' =>
      ∃ g cap L, e = .returned (.slice (some ⟨g, 0, none⟩) L cap) ∧ L ≤ 53 + role.size + pl 0 + pl 1 + pl 2 + pl 3 ∧ 53 + role.size + pl 0 + pl 1 + pl 2 + pl 3 ≤ L ∧ Own w' w.heap.size g L cap (headB role nz ++ conts pl py 4) ∧ Below w.heap.size w w' := by
  refine (transcript_any net role pa pl pc py nz w hnz hr hpl W hW hs).mono ?_
  rintro e w' ⟨g, cap, he, ho, hb⟩
  exact ⟨g, cap, _, he, by simp [lens]; omega, by simp [lens]; omega, ho, hb⟩

set_option maxHeartbeats 1000000 in
set_option maxRecDepth 100000 in
theorem fresh_any (net : Array Value) (role : ByteArray) (pa : Nat → Option Addr) (pl pc : Nat → Nat) (py : Nat → Nat → Int) (nz : Nat → Int) (w : World) (hnet : net.size = 32) (hnz : ∀ i, i < 32 → net[i]? = some (.int .u8 (nz i)))
    (hr : role.size ≤ 1024) (hpl : ∀ j, j < 4 → pl j ≤ 1024) (hs : ∀ j, j < 4 → Seen .u8 w (pa j) (pl j) (py j)) :
    Calls Yba.prog 4 #[.agg net, .string role, .slice (pa 0) (pl 0) (pc 0), .slice (pa 1) (pl 1) (pc 1), .slice (pa 2) (pl 2) (pc 2), .slice (pa 3) (pl 3) (pc 3)] w fun e w' => e = .returned (.bool true) ∧ Below w.heap.size w w' := by
  have p0 := hpl 0 (by omega)
  have p1 := hpl 1 (by omega)
  have p2 := hpl 2 (by omega)
  have p3 := hpl 3 (by omega)
  have hsize : (Yba.prog.info? 22).map (·.size) = some net.size := by rw [hnet]; exact Yba.size22
  have HS : Hid ((Yba.prog.info? 22).map (·.size) = some net.size) := hsize
  have B0 : Below w.heap.size w (w.alloc (.cells net 22)) := (Below.refl w.heap.size w).alloc (Nat.le_refl _) _
  clear hsize
  go_enter Yba.func4, Yba.ntmps4
  go_wp2_with fail
  refine (clone_any (pa 0) (pl 0) (pc 0) (py 0) _ p0 w (by exact B0) (hs 0 (by omega))).mono ?_
  rintro e w1 ⟨a0, c0, rfl, S0, b0⟩
  have B1 : Below w.heap.size w w1 := B0.trans (b0.mono (by simp))
  go_wp2_with fail
  refine (clone_any (pa 1) (pl 1) (pc 1) (py 1) _ p1 w (by exact B1) (hs 1 (by omega))).mono ?_
  rintro e w2 ⟨a1, c1, rfl, S1, b1⟩
  have B2 : Below w.heap.size w w2 := B1.trans (b1.mono B1.size)
  have b1' := b1
  replace b1 := b0.trans (b1.mono b0.size)
  go_wp2_with fail
  refine (clone_any (pa 2) (pl 2) (pc 2) (py 2) _ p2 w (by exact B2) (hs 2 (by omega))).mono ?_
  rintro e w3 ⟨a2, c2, rfl, S2, b2⟩
  have B3 : Below w.heap.size w w3 := B2.trans (b2.mono B2.size)
  have T1 := seen_carry S0 b1' (Nat.le_refl _)
  clear S0
  go_wp2_with fail
  refine (clone_any (pa 3) (pl 3) (pc 3) (py 3) _ p3 w (by exact B3) (hs 3 (by omega))).mono ?_
  rintro e w4 ⟨a3, c3, rfl, S3, b3⟩
  have B4 : Below w.heap.size w w4 := B3.trans (b3.mono B3.size)
  have b : Below (w.alloc (.cells net 22)).heap.size (w.alloc (.cells net 22)) w4 := ((b1.trans (b2.mono b1.size)).trans (b3.mono (Nat.le_trans b1.size b2.size)))
  have hl := load_box b
  have R2 := seen_carry S2 b3 (Nat.le_refl _)
  have R1 := seen_carry (seen_carry S1 b2 (Nat.le_refl _)) b3 (Nat.le_refl _)
  have R0 := seen_carry (seen_carry T1 b2 (Nat.le_refl _)) b3 (Nat.le_refl _)
  clear b b1 b1' b2 b3 S1 S2 T1 B0 B1 B2 B3
  go_wp2_with (refine wpList_load_row rfl 22 _ rfl w.heap.size rfl 22 net (0, 0) _ hl Yba.underlying22 rfl HS.out ?_)
  refine (transcript_at net role pa pl pc py nz _ hnz hr hpl w (by exact B4) hs).mono ?_
  rintro e w5 ⟨g, cap, L, rfl, l1, l2, ho, b5⟩
  have B5 : Below w.heap.size w w5 := B4.trans (b5.mono B4.size)
  have hz4 := B4.size
  generalize headB role nz ++ conts pl py 4 = zs at ho
  go_wp2
  go_loopw [18] (fun i wr => ∃ k : Nat, k ≤ L ∧ i = .int .i64 (k : Nat) ∧ ∃ zs, Own wr w4.heap.size g L cap zs ∧ Below w4.heap.size w4 wr) (fun i _ => L - (intOf i).toNat)
  case atStart => exact ⟨0, Nat.zero_le _, rfl, zs, ho, b5⟩
  case round =>
    clear ho b5
    obtain ⟨k, hk, rfl, zs, ho, b5⟩ := hrel
    by_cases hlt : k < L
    · have g1 := ho.cell k hlt
      have g2 := (ho.there k (Nat.lt_of_lt_of_le hlt ho.le)).2
      have S := own_set ho hlt
      have Sb := fun x => b5.setCell (p := ⟨g, k, none⟩) ho.base (.int .u8 x)
      clear ho b5
      go_wp2
      go_roundw
      case rel => exact ⟨k + 1, by omega, by go_num, _, S _, Sb _⟩
      case measure => simp [intOf]; omega
    · have Bw : Below w.heap.size w wr := B4.trans (b5.mono B4.size)
      have A0 := seen_below (hs 0 (by omega)) Bw
      have A1 := seen_below (hs 1 (by omega)) Bw
      have A2 := seen_below (hs 2 (by omega)) Bw
      have A3 := seen_below (hs 3 (by omega)) Bw
      have C0 := seen_carry R0 b5 (Nat.le_refl _)
      have C1 := seen_carry R1 b5 (Nat.le_refl _)
      have C2 := seen_carry R2 b5 (Nat.le_refl _)
      have C3 := seen_carry S3 b5 (Nat.le_refl _)
      clear R0 R1 R2 S3 hs hpl ho
      go_wp2_with fail
      refine (same_any (pa 0) a0 (pl 0) (pc 0) c0 (py 0) _ (by omega) (by exact A0) (by exact C0)).mono ?_
      rintro e x1 ⟨rfl, q0, rfl⟩
      go_wp2_with fail
      refine (same_any (pa 1) a1 (pl 1) (pc 1) c1 (py 1) _ (by omega) (by exact A1) (by exact C1)).mono ?_
      rintro e x1 ⟨rfl, q1, rfl⟩
      go_wp2_with fail
      refine (same_any (pa 2) a2 (pl 2) (pc 2) c2 (py 2) _ (by omega) (by exact A2) (by exact C2)).mono ?_
      rintro e x1 ⟨rfl, q2, rfl⟩
      go_wp2_with fail
      refine (same_any (pa 3) a3 (pl 3) (pc 3) c3 (py 3) _ (by omega) (by exact A3) (by exact C3)).mono ?_
      rintro e x1 ⟨rfl, q3, rfl⟩
      go_wp2
      go_ret
      exact ⟨rfl, below_drewN Bw _⟩
end Go.Proofs.Ybulktfc
