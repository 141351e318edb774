import Derived.Test.YbulktfcTranscript
namespace Go.Proofs.Ybulktfc
open Go.RowKit

theorem Yba.size22' : (Yba.prog.info? 22).map (·.size) = some 32 := by kernel_rfl

def zero64 : Array Value := Array.replicate 64 (.int .u8 0)
theorem make64 (w : World) : (Instr.makeSlice 23 (.int .i64 0) (.int .i64 64)).run Yba.prog w = .ok (.slice (some ⟨w.heap.size, 0, none⟩) 0 64) (w.alloc (.cells zero64 5)) := by kernel_rfl

theorem own_make64 (w : World) : Own (w.alloc (.cells zero64 5)) w.heap.size w.heap.size 0 64 [] := by
  refine ⟨rfl, Nat.le_refl _, by simp, by omega, by unfold maxLen; omega, fun i hi => by omega, fun i hi => ⟨?_, ?_⟩⟩
  · unfold World.cell?
    rw [Deep.blk_alloc_new]
    simp [zero64, hi]
  · unfold World.frozen?
    rw [Deep.blk_alloc_new]
    simp

theorem load_box' {w w' : World} {net : Array Value} (hb : Below (w.alloc (.cells net 22)).heap.size (w.alloc (.cells net 22)) w') : w'.heap[w.heap.size]? = some (.cells net 22 (0, 0)) :=
  (hb.block w.heap.size (by simp)).trans (Deep.blk_alloc_new w _)

theorem box_cell {w w' : World} {net : Array Value} {nz : Nat → Int} (hnz : ∀ i, i < 32 → net[i]? = some (.int .u8 (nz i))) (hb : Below (w.heap.size + 1) (w.alloc (.cells net 22)) w') {k : Nat} (hk : k < 32) : w'.cell? ⟨w.heap.size, k, none⟩ = some (.int .u8 (nz k)) := by
  rw [hb.cell (by show w.heap.size < w.heap.size + 1; omega)]
  unfold World.cell?
  rw [Deep.blk_alloc_new]
  exact hnz k hk

/-- the bytes of a string, as numbers -/
def bl (s : ByteArray) : List Int := s.data.toList.map fun b => (b.toNat : Int)
theorem bl_range (s : ByteArray) : (List.range s.size).map (strB s) = bl s := by
  apply List.ext_getElem?
  intro i
  unfold bl
  by_cases h : i < s.size
  · simp [h, strB]
    rfl
  · have h' : ¬ i < s.data.size := h
    rw [List.getElem?_eq_none (by simp; omega), List.getElem?_eq_none (by simp; omega)]
theorem bl_append (a b : ByteArray) : bl (a ++ b) = bl a ++ bl b := by simp [bl, ByteArray.data_append]

/-- want's bytes are got's -/
theorem want_got (role : ByteArray) (nz : Nat → Int) (pl : Nat → Nat) (py : Nat → Nat → Int) :
    [] ++ (List.range preS.size).map (strB preS) ++ (List.range role.size).map (strB role) ++ (List.range 1).map (fun _ => (0 : Int)) ++ (List.range 32).map nz ++ (List.range (pl 0)).map (py 0) ++ (List.range (pl 1)).map (py 1) ++ (List.range (pl 2)).map (py 2) ++ (List.range (pl 3)).map (py 3)
      = headB role nz ++ conts pl py 4 := by
  have h1 : (List.range 1).map (fun _ => (0 : Int)) = bl nulS := rfl
  unfold headB
  rw [← size_all role, bl_range, bl_range, bl_range, h1, bl_append, bl_append]
  simp [conts, List.append_assoc]

theorem same_at (a b : Option Addr) (n n' c d : Nat) (z z' : Nat → Int) (w : World) (h : n = n') (hz : z = z') (hn : n ≤ 1000000) (ha : Seen .u8 w a n z) (hb : Seen .u8 w b n' z') :
    Calls Yba.prog 9 #[.slice a n c, .slice b n' d] w fun e w' => e = .returned (.bool true) ∧ ∃ q, w' = w.drewN q := by
  subst h hz
  exact same_any a b n c d z w hn ha hb

theorem addstr_at (base g n cap : Nat) (zs : List Int) (s : ByteArray) (w : World) (hm : s.size ≤ 1024) (hn : n ≤ 100000) (hown : Own w base g n cap zs) :
    Calls Yba.prog 6 #[.slice (some ⟨g, 0, none⟩) n cap, .string s] w fun e w' => ∃ g' cap' L, e = .returned (.slice (some ⟨g', 0, none⟩) L cap') ∧ L ≤ n + 1024 ∧ Own w' base g' L cap' (zs ++ (List.range s.size).map (strB s)) ∧ Below base w w' :=
  (addstr_any base g n cap zs s w hm hn hown).mono fun _ _ ⟨g', cap', he, ho, hb⟩ => ⟨g', cap', _, he, by omega, ho, hb⟩
theorem add_at (base g n cap : Nat) (zs : List Int) (a : Option Addr) (m c : Nat) (y : Nat → Int) (w : World) (hm : m ≤ 1024) (hn : n ≤ 100000) (hown : Own w base g n cap zs) (W : World) (hW : Below W.heap.size W w) (hWB : W.heap.size ≤ base) (hs : Seen .u8 W a m y) :
    Calls Yba.prog 7 #[.slice (some ⟨g, 0, none⟩) n cap, .slice a m c] w fun e w' => ∃ g' cap' L, e = .returned (.slice (some ⟨g', 0, none⟩) L cap') ∧ L ≤ n + 1024 ∧ Own w' base g' L cap' (zs ++ (List.range m).map y) ∧ Below base w w' :=
  (add_any base g n cap zs a m c y w hm hn hown W hW hWB hs).mono fun _ _ ⟨g', cap', he, ho, hb⟩ => ⟨g', cap', _, he, by omega, ho, hb⟩

set_option maxHeartbeats 1000000 in
set_option maxRecDepth 100000 in
theorem exact_any (net : Array Value) (role : ByteArray) (pa : Nat → Option Addr) (pl pc : Nat → Nat) (py : Nat → Nat → Int) (nz : Nat → Int) (w : World) (hnet : net.size = 32) (hnz : ∀ i, i < 32 → net[i]? = some (.int .u8 (nz i)))
    (hr : role.size ≤ 1024) (hpl : ∀ j, j < 4 → pl j ≤ 1024) (hs : ∀ j, j < 4 → Seen .u8 w (pa j) (pl j) (py j)) :
    Calls Yba.prog 3 #[.agg net, .string role, .slice (pa 0) (pl 0) (pc 0), .slice (pa 1) (pl 1) (pc 1), .slice (pa 2) (pl 2) (pc 2), .slice (pa 3) (pl 3) (pc 3)] w fun e w' => e = .returned (.bool true) ∧ Below w.heap.size w w' := by
  obtain ⟨i0, hi, hz0, hz1, hz2⟩ := info_parts Yba.info5
  have p0 := hpl 0 (by omega)
  have p1 := hpl 1 (by omega)
  have p2 := hpl 2 (by omega)
  have p3 := hpl 3 (by omega)
  have hps : preS.size ≤ 1024 := by show 20 ≤ 1024; omega
  have HS : Hid ((Yba.prog.info? 22).map (·.size) = some net.size) := by rw [hnet]; exact Yba.size22'
  have B0 : Below w.heap.size w (w.alloc (.cells net 22)) := (Below.refl w.heap.size w).alloc (Nat.le_refl _) _
  have hsz : (w.alloc (.cells net 22)).heap.size = w.heap.size + 1 := by simp
  have o0 := own_make64 (w.alloc (.cells net 22))
  have b0 : Below (w.heap.size + 1) (w.alloc (.cells net 22)) ((w.alloc (.cells net 22)).alloc (.cells zero64 5)) := (Below.refl _ _).alloc (by simp) _
  rw [hsz] at o0
  have hmk := make64
  go_enter Yba.func3, Yba.ntmps3
  go_wp2_with fail
  refine (addstr_at (w.heap.size + 1) (w.heap.size + 1) 0 64 [] preS _ hps (by omega) (by exact o0)).mono ?_
  rintro e w1 ⟨g1, c1, l1, rfl, k1, o1, b1⟩
  replace b1 := b0.trans b1
  clear o0 b0 hmk
  go_wp2_with fail
  refine (addstr_at (w.heap.size + 1) g1 l1 c1 _ role _ hr (by omega) (by exact o1)).mono ?_
  rintro e w2 ⟨g2, c2, l2, rfl, k2, o2, b2⟩
  replace b2 := b1.trans b2
  clear o1 b1
  go_wp2_with (at_builtin; refine wpList_append_seen _ rfl (.tmp 45) (.tmp 46) 23 rfl 5 i0 Yba.underlying23 hi hz0 hz1 hz2 rfl (own_alloc o2 _) rfl (seen_one _ _ _) (by omega) ?_; intro g3 c3 w3 o3 hg3 hd3)
  have b3 : Below (w.heap.size + 1) (w.alloc (.cells net 22)) w3 := (b2.alloc (Nat.le_of_lt (Nat.lt_of_le_of_lt o2.base o2.lt)) _).grown hg3 (by simp; have := o2.base; have := o2.lt; omega) (fun j hj => by cases hj; exact o2.base)
  obtain ⟨l3, e3⟩ : ∃ l, l2 + 1 = l := ⟨_, rfl⟩
  rw [e3] at o3 ⊢
  have k3 : l3 ≤ 10000 := by omega
  clear o2 hg3 hd3 b2 e3 k1 k2
  obtain ⟨z3, h3⟩ : ∃ z, z = [] ++ (List.range preS.size).map (strB preS) ++ (List.range role.size).map (strB role) ++ (List.range 1).map (fun _ => (0 : Int)) := ⟨_, rfl⟩
  rw [← h3] at o3
  have H3 : Hid (z3 = [] ++ (List.range preS.size).map (strB preS) ++ (List.range role.size).map (strB role) ++ (List.range 1).map (fun _ => (0 : Int))) := h3
  clear h3
  go_wp2_with fail
  go_loopw [13, 14] (fun v i wr => ∃ k g cap, k ≤ 32 ∧ i = .int .i64 (k : Nat) ∧ v = .slice (some ⟨g, 0, none⟩) (l3 + k) cap ∧ Own wr (w.heap.size + 1) g (l3 + k) cap (z3 ++ (List.range k).map nz) ∧ Below (w.heap.size + 1) (w.alloc (.cells net 22)) wr) (fun _ i _ => 32 - (intOf i).toNat)
  case atStart => exact ⟨0, g3, c3, by omega, rfl, rfl, by simpa using o3, b3⟩
  case round =>
    clear o3 b3
    obtain ⟨k, g4, c4, hk, rfl, rfl, o4, b4⟩ := hrel
    by_cases hlt : k < 32
    · have g1 := box_cell hnz b4 hlt
      clear hs hnz
      go_wp2_with (at_builtin; refine wpList_append_seen _ rfl (.tmp 52) (.tmp 56) 23 rfl 5 i0 Yba.underlying23 hi hz0 hz1 hz2 rfl (own_alloc o4 _) rfl (seen_one _ _ _) (by omega) ?_; intro g5 c5 w5 h1 h2 h3)
      have S := add_step rfl (Nat.le_of_lt (Nat.lt_of_le_of_lt o4.base o4.lt)) b4 o4 h1 h2
      clear h1 h2 h3 o4 b4
      go_wp2
      go_roundw
      case rel => exact ⟨k + 1, g5, c5, by omega, by go_num, rfl, S.1, S.2⟩
      case measure => simp [intOf]; omega
    · obtain rfl : k = 32 := by omega
      obtain ⟨l4, e4⟩ : ∃ l, l3 + 32 = l := ⟨_, rfl⟩
      rw [e4] at o4 ⊢
      have k4 : l4 ≤ 20000 := by omega
      have W4 : Below w.heap.size w wr := B0.trans (b4.mono (Nat.le_succ _))
      clear e4 hk hlt
      go_wp2_with fail
      refine (add_at (w.heap.size + 1) g4 l4 c4 _ (pa 0) (pl 0) (pc 0) (py 0) _ p0 (by omega) (by exact o4) w (by exact W4) (Nat.le_succ _) (hs 0 (by omega))).mono ?_
      rintro e w5 ⟨g5, c5, l5, rfl, k5, o5, b5⟩
      replace b5 := b4.trans b5
      have W5 : Below w.heap.size w w5 := B0.trans (b5.mono (Nat.le_succ _))
      clear o4 b4 W4
      go_wp2_with fail
      refine (add_at (w.heap.size + 1) g5 l5 c5 _ (pa 1) (pl 1) (pc 1) (py 1) _ p1 (by omega) (by exact o5) w (by exact W5) (Nat.le_succ _) (hs 1 (by omega))).mono ?_
      rintro e w6 ⟨g6, c6, l6, rfl, k6, o6, b6⟩
      replace b6 := b5.trans b6
      have W6 : Below w.heap.size w w6 := B0.trans (b6.mono (Nat.le_succ _))
      clear o5 b5 W5
      go_wp2_with fail
      refine (add_at (w.heap.size + 1) g6 l6 c6 _ (pa 2) (pl 2) (pc 2) (py 2) _ p2 (by omega) (by exact o6) w (by exact W6) (Nat.le_succ _) (hs 2 (by omega))).mono ?_
      rintro e w7 ⟨g7, c7, l7, rfl, k7, o7, b7⟩
      replace b7 := b6.trans b7
      have W7 : Below w.heap.size w w7 := B0.trans (b7.mono (Nat.le_succ _))
      clear o6 b6 W6
      go_wp2_with fail
      refine (add_at (w.heap.size + 1) g7 l7 c7 _ (pa 3) (pl 3) (pc 3) (py 3) _ p3 (by omega) (by exact o7) w (by exact W7) (Nat.le_succ _) (hs 3 (by omega))).mono ?_
      rintro e w8 ⟨g8, c8, l8, rfl, k8, o8, b8⟩
      replace b8 := b7.trans b8
      have W8 : Below w.heap.size w w8 := B0.trans (b8.mono (Nat.le_succ _))
      clear o7 b7 W7
      have hl := load_box' (by rw [hsz]; exact b8)
      have o8' : Own w8 (w.heap.size + 1) g8 l8 c8 (headB role nz ++ conts pl py 4) := by
        rw [← want_got, ← H3.out]
        exact o8
      clear o8
      go_wp2_with (refine wpList_load_row rfl 22 _ rfl w.heap.size rfl 22 net (0, 0) _ hl Yba.underlying22 rfl HS.out ?_)
      refine (transcript_any net role pa pl pc py nz _ hnz hr hpl w (by exact W8) hs).mono ?_
      rintro e w9 ⟨g, cap, rfl, ho, b9⟩
      have W9 : Below w.heap.size w w9 := W8.trans (b9.mono W8.size)
      have A := own_seen ho
      have C := own_seen (own_carry o8' b9 o8'.lt)
      have hL : 21 + role.size + 32 + lens pl 4 = l8 := ho.len.symm.trans o8'.len
      rw [hL] at A ⊢
      clear hL ho
      go_wp2_with fail
      refine (same_at _ _ l8 l8 cap c8 _ _ _ rfl rfl (by omega) (by exact A) (by exact C)).mono ?_
      rintro e x1 ⟨rfl, q, rfl⟩
      go_wp2
      go_ret
      exact ⟨rfl, below_drewN W9 _⟩
end Go.Proofs.Ybulktfc
