import Derived.Test.YbulkthgBytes
namespace Go.Proofs.Ybulkthg
open Go.RowKit

theorem Yba.size23 : (Yba.prog.info? 23).map (·.size) = some 8 := by kernel_rfl
theorem Yba.size5 : (Yba.prog.info? 5).map (·.size) = some 1 := by kernel_rfl

theorem made_list (n : Nat) : madeCells #[Value.int IntKind.u8 0] n = (List.replicate n (Value.int IntKind.u8 0)).toArray := by
  apply Array.ext_getElem?
  intro i
  by_cases h : i < n
  · simp [madeCells, h, Nat.mod_one]
  · rw [Array.getElem?_eq_none (by rw [size_madeCells]; omega), Array.getElem?_eq_none (by simp; omega)]

theorem splice_all {α : Type} (L cs : List α) (h : L.length = cs.length) : splice L 0 cs = cs := by
  unfold splice
  rw [List.take_zero, Nat.zero_add, ← h, List.drop_length]
  simp

theorem own_row {w : World} {base g n : Nat} {y : Nat → Int} (h : w.heap[g]? = some (.cells ((List.range n).map fun i => Value.int .u8 (y i)).toArray 5 (0, 0))) (hb : base ≤ g) (hn : n ≤ maxLen) : Own w base g n n ((List.range n).map y) := by
  have hc : ∀ i, i < n → w.cell? ⟨g, i, none⟩ = some (.int .u8 (y i)) := fun i hi => cell_blk h (by simp [hi])
  refine ⟨by simp, hb, (Array.getElem?_eq_some_iff.1 h).1, Nat.le_refl _, hn, fun i hi => ?_, fun i hi => ⟨by rw [hc i hi]; rfl, ?_⟩⟩
  · rw [hc i hi]
    simp [List.getD, hi]
  · unfold World.frozen?
    rw [h]
    simp

/-- 'copy(dst, src)', dst just made, of src's length -/
theorem wpList_copy_seen (w : World) {ops : Array Oper} {rest : List Oper} {o : Oper} {a : Act} {Q : Exit → Act → World → Prop} (hgd : o.guard = none) (d s : Operand)
    (ho : o.op = .call { callee := .builtin .copy, args := #[d, s], argTypes := #[22, 22] }) (g n c : Nat) (ao : Option Addr) (y : Nat → Int) (hd : a.eval d = .slice (some ⟨g, 0, none⟩) n n) (hs : a.eval s = .slice ao n c)
    (hg : w.heap[g]? = some (.cells (madeCells #[.int .u8 0] n) 5 (0, 0))) (hS : Seen .u8 w ao n y) (hn : n ≤ maxLen) (B : Nat) (w0 : World) (hb : Below B w0 w) (hBg : B ≤ g)
    (h : ∀ w', Own w' B g n n ((List.range n).map y) → Below B w0 w' → wpList Yba.prog ops Q rest (a.put o.dst (goInt n)) w') :
    wpList Yba.prog ops Q (o :: rest) a w := by
  have hlen : ((List.range n).map fun i => Value.int .u8 (y i)).length = n := by simp
  rw [made_list] at hg
  refine wpList_copy_splice hgd d s 22 22 ho 5 Yba.underlying22 Yba.size5 _ _ n n n c hd hs g 0 (List.replicate n (.int .u8 0)) 5 hg ((List.range n).map fun i => Value.int .u8 (y i)) (by simp) (fun h => ?_) (by simp) (fun u hu => by obtain ⟨i, _, rfl⟩ := List.mem_map.1 hu; rfl) B w0 hb hBg ?_
  · have hn0 : 0 < n := by simpa using h
    obtain ⟨b, off, rfl, _⟩ := hS 0 hn0
    refine ⟨rfl, _, rfl, fun j v hv => ?_⟩
    rw [List.getElem?_map] at hv
    by_cases hj : j < n
    · rw [List.getElem?_range hj] at hv
      obtain ⟨b', off', he, hc⟩ := hS j hj
      simp at he hv
      obtain ⟨rfl, rfl⟩ := he
      rw [Addr.add_lit, hc, hv]
    · rw [List.getElem?_eq_none (by simp; omega)] at hv
      simp at hv
  · intro w' HG hB
    have h2 := HG.out
    rw [splice_all _ _ (by simp)] at h2
    rw [hlen]
    exact h w' (own_row h2 hBg hn) hB

/-- the nonce's cells -/
def netC (nz : Nat → Int) : Array Value := #[.int .u8 (nz 0), .int .u8 (nz 1), .int .u8 (nz 2), .int .u8 (nz 3), .int .u8 (nz 4), .int .u8 (nz 5), .int .u8 (nz 6), .int .u8 (nz 7)]
theorem netC_cells (nz : Nat → Int) : ∀ i, i < 8 → (netC nz)[i]? = some (.int .u8 (nz i))
  | 0, _ => rfl
  | 1, _ => rfl
  | 2, _ => rfl
  | 3, _ => rfl
  | 4, _ => rfl
  | 5, _ => rfl
  | 6, _ => rfl
  | 7, _ => rfl

theorem make_cap (n : Nat) (hn : n ≤ 1024) (w : World) : (Instr.makeSlice 22 (.int .i64 0) (.int .i64 ((n : Int) + 17))).run Yba.prog w = .ok (.slice (some ⟨w.heap.size, 0, none⟩) 0 (n + 17)) (w.alloc (.cells (madeCells #[.int .u8 0] (n + 17)) 5)) := by
  obtain ⟨e0, hi, hz0, hz1, hz2⟩ := info_parts Yba.info5
  have h := run_make (P := Yba.prog) w 22 5 e0 (.int .u8 0) Yba.underlying22 hi hz0 .i64 .i64 0 ((n : Int) + 17) (by omega) (by omega) (by rw [hz2]; omega) (by omega)
  rw [hz1, Nat.mul_one, show ((n : Int) + 17).toNat = n + 17 by omega] at h
  exact h

theorem own_made (w : World) (m : Nat) (hm : m ≤ maxLen) : Own (w.alloc (.cells (madeCells #[.int .u8 0] m) 5)) w.heap.size w.heap.size 0 m [] := by
  refine ⟨rfl, Nat.le_refl _, by simp, Nat.zero_le _, hm, fun i hi => by omega, fun i hi => ⟨?_, ?_⟩⟩
  · have := (World.rowIs_made w (.int .u8 0) m 5).cell hi
    rw [this]
    rfl
  · exact (World.rowIs_made w (.int .u8 0) m 5).frozen i

theorem seen_net {w wX : World} {nz : Nat → Int} (hb : Below (w.heap.size + 1) (w.alloc (.cells (netC nz) 23)) wX) : Seen .u8 wX (some ⟨w.heap.size, 0, none⟩) 8 nz := by
  intro i hi
  refine ⟨w.heap.size, 0, rfl, ?_⟩
  rw [Nat.zero_add]
  exact cell_blk ((hb.block w.heap.size (by omega)).trans (Deep.blk_alloc_new w _)) (netC_cells nz i hi)

set_option maxHeartbeats 1000000 in
set_option maxRecDepth 100000 in
theorem check_any (a : Option Addr) (n c : Nat) (y nz : Nat → Int) (iv bd mode : Int) (w : World) (hn : n ≤ 1024) (i0 : -9223372036854775808 ≤ iv) (i1 : iv ≤ 9223372036854775807) (j0 : -9223372036854775808 ≤ bd) (j1 : bd ≤ 9223372036854775807) (hs : Seen .u8 w a n y) :
    Calls Yba.prog 7 #[.slice a n c, .agg #[.int .u8 (nz 0), .int .u8 (nz 1), .int .u8 (nz 2), .int .u8 (nz 3), .int .u8 (nz 4), .int .u8 (nz 5), .int .u8 (nz 6), .int .u8 (nz 7)], .int .i64 iv, .int .i64 bd, .int .u8 mode] w fun e w' =>
      e = .returned (.bool true) ∧ Below w.heap.size w w' := by
  obtain ⟨e0, hi, hz0, hz1, hz2⟩ := info_parts Yba.info5
  have hmk := run_make_row' (P := Yba.prog) 22 5 (.int .u8 0) 1 Yba.underlying22 Yba.info5 rfl .i64 .i64 n (by omega) (by omega)
  have B0 : Below w.heap.size w (w.alloc (.cells (netC nz) 23)) := (Below.refl w.heap.size w).alloc (Nat.le_refl _) _
  have hz : (w.alloc (.cells (netC nz) 23)).heap.size = w.heap.size + 1 := by simp
  have B1 : Below (w.heap.size + 1) (w.alloc (.cells (netC nz) 23)) ((w.alloc (.cells (netC nz) 23)).alloc (.cells (madeCells #[.int .u8 0] n) 5)) := (Below.refl _ _).alloc (by simp) _
  have hg1 : ((w.alloc (.cells (netC nz) 23)).alloc (.cells (madeCells #[.int .u8 0] n) 5)).heap[w.heap.size + 1]? = some (.cells (madeCells #[.int .u8 0] n) 5 (0, 0)) := by
    rw [← hz]
    exact Deep.blk_alloc_new _ _
  have hS : Seen .u8 ((w.alloc (.cells (netC nz) 23)).alloc (.cells (madeCells #[.int .u8 0] n) 5)) a n y := seen_below hs (B0.trans (B1.mono (by omega)))
  have HG1 : Hid (((w.alloc (.cells (netC nz) 23)).alloc (.cells (madeCells #[.int .u8 0] n) 5)).heap[w.heap.size + 1]? = some (.cells (madeCells #[.int .u8 0] n) 5 (0, 0))) := hg1
  clear hg1 hz
  go_enter Yba.func7, Yba.ntmps7
  go_wp2_with (first
    | (refine wpList_copy_seen _ rfl (.tmp 22) (.tmp 23) rfl (w.heap.size + 1) n c a y rfl rfl HG1.out hS (by unfold maxLen; omega) (w.heap.size + 1) _ B1 (Nat.le_refl _) ?_; intro w2 o2 B2)
    | (refine wpList_load_row rfl 23 (.tmp 6) rfl w.heap.size rfl 23 (netC nz) (0, 0) _ ((B2.block w.heap.size (by omega)).trans (Deep.blk_alloc_new w _)) Yba.underlying23 rfl Yba.size23 ?_; unfold netC))
  have q2 := o2.lt
  refine (body_any (w.heap.size + 1) (w.heap.size + 1) n n _ nz iv bd mode _ (by omega) i0 i1 j0 j1 (by exact own_alloc o2 _)).mono ?_
  rintro e w3 ⟨gG, cG, LG, rfl, kG, oG, GG⟩
  have B3 : Below (w.heap.size + 1) (w.alloc (.cells (netC nz) 23)) w3 := GG.alloc.below B2 (by omega) (Nat.le_refl _)
  have q3 := B3.size
  have hz3 : w.heap.size + 1 ≤ w3.heap.size := by simpa using q3
  have hmk2 := make_cap n hn
  have oW := own_made w3 (n + 17) (by unfold maxLen; omega)
  have BW : Below w3.heap.size w3 (w3.alloc (.cells (madeCells #[.int .u8 0] (n + 17)) 5)) := (Below.refl _ _).alloc (Nat.le_refl _) _
  have hSW : Seen .u8 (w3.alloc (.cells (madeCells #[.int .u8 0] (n + 17)) 5)) a n y := seen_below hs (B0.trans ((B3.trans (BW.mono hz3)).mono (by omega)))
  clear GG o2 B2 B1 hS HG1 hmk q3
  go_wp2_with (first
    | (at_builtin; refine wpList_append_seen _ rfl (.tmp 37) (.tmp 38) 22 rfl 5 e0 Yba.underlying22 hi hz0 hz1 hz2 rfl oW rfl hSW (by omega) ?_; intro g4 c4 w4 o4 hg4 hl4; rw [Nat.zero_add, List.nil_append] at o4; have B4 := Grew.below ⟨hg4, hl4⟩ BW (by simp) (Nat.le_refl _); have hN4 := seen_net (B3.trans (B4.mono hz3)))
    | (at_builtin; refine wpList_append_seen _ rfl (.tmp 40) (.tmp 41) 22 rfl 5 e0 Yba.underlying22 hi hz0 hz1 hz2 rfl o4 rfl hN4 (by omega) ?_; intro g5 c5 w5 o5 hg5 hl5))
  have B5 := Grew.below ⟨hg5, hl5⟩ B4 B4.size o4.base
  clear hN4 hSW oW BW hmk2 hg4 hl4 hg5 hl5 o4 B4
  refine (be_any w3.heap.size g5 (n + 8) c5 _ (iv.tdiv 1000000 % 4294967296) _ (by omega) (ms_bd iv).1 (ms_bd iv).2 (by exact o5)).mono ?_
  rintro e w6 ⟨g6, c6, l6, rfl, k6, o6, G6⟩
  have B6 := G6.below B5 B5.size o5.base
  clear o5 B5 G6
  go_wp2_with (first
    | (at_builtin; refine wpList_append_seen _ rfl (.tmp 48) (.tmp 50) 22 rfl 5 e0 Yba.underlying22 hi hz0 hz1 hz2 rfl (own_alloc o6 _) rfl (seen_one _ _ _) (by omega) ?_; intro g7 c7 w7 o7 hg7 hl7))
  have B7 := (Grew.alloc ⟨hg7, hl7⟩).below B6 B6.size o6.base
  clear hg7 hl7 o6 B6
  refine (be_any w3.heap.size g7 (l6 + 1) c7 _ (bd.tdiv 1000000 % 4294967296) _ (by omega) (ms_bd bd).1 (ms_bd bd).2 (by exact o7)).mono ?_
  rintro e w8 ⟨g8, c8, l8, rfl, k8, o8, G8⟩
  have B8 := G8.below B7 B7.size o7.base
  clear o7 B7 G8
  have hzs : (List.range n).map y ++ (List.range 8).map nz ++ (List.range 4).map (be4 (ms iv)) ++ (List.range 1).map (fun _ => mode) ++ (List.range 4).map (be4 (ms bd)) = (List.range n).map y ++ bodyB nz iv bd mode := by simp only [bodyB, List.append_assoc]
  have o8' : Own w8 w3.heap.size g8 l8 c8 ((List.range n).map y ++ bodyB nz iv bd mode) := by rw [← hzs]; exact o8
  have oG' := own_carry oG B8 oG.lt
  clear hzs o8 oG
  generalize (List.range n).map y ++ bodyB nz iv bd mode = zs at o8' oG'
  obtain rfl : LG = l8 := oG'.len.symm.trans o8'.len
  have W8 : Below w.heap.size w w8 := B0.trans ((B3.trans (B8.mono hz3)).mono (by omega))
  clear B3 B8
  have hd : ((LG : Int) != (LG : Int)) = false := by simp
  go_wp2
  go_loopw [15] (fun i wr => ∃ k : Nat, k ≤ LG ∧ i = .int .i64 (k : Nat) ∧ ∃ q, wr = w8.drewN q) (fun i _ => LG - (intOf i).toNat)
  case atStart => exact ⟨0, Nat.zero_le _, rfl, 0, rfl⟩
  case round =>
    obtain ⟨k, hk, rfl, q, rfl⟩ := hrel
    by_cases hlt : k < LG
    · have h1 := oG'.cell k hlt
      have h2 := o8'.cell k hlt
      have hli : (k : Int) < (LG : Int) := by omega
      have hl0 : (0 : Int) ≤ (k : Int) := by omega
      go_wp2
      go_quiet (fail)
      go_wp2
      go_roundw
      case rel => exact ⟨k + 1, by omega, by go_num, _, rfl⟩
      case measure => simp [intOf]; omega
    · go_wp2
      go_ret
      exact ⟨rfl, below_drewN W8 q⟩
end Go.Proofs.Ybulkthg
