import Derived.Test.YbulkthgOwn
import Derived.Deep.QuietTactic
import Derived.BigQuiet
import Derived.Laws.CopyOwn
namespace Go.Proofs.Ybulkthg
open Go.RowKit

theorem Yba.info5 : (Yba.prog.info? 5).map (fun i => (i.zero, i.size, i.bytes)) = some (some (.int .u8 0), 1, 1) := by kernel_rfl

/-- the four bytes of a number, the highest first -/
def be4 (v : Int) : Nat → Int
  | 0 => v / 16777216
  | 1 => v / 65536 % 256
  | 2 => v / 256 % 256
  | _ => v % 256

/-- what appends leave: block g alone has turned, the slice lies there or in a new block -/
structure Grew (w w' : World) (g g' : Nat) : Prop where
  by' : w.grownBy w' (some g)
  loc : g' = g ∨ w.heap.size ≤ g'

theorem Grew.trans {w w1 w2 : World} {g g1 g2 : Nat} (h : Grew w w1 g g1) (k : Grew w1 w2 g1 g2) : Grew w w2 g g2 := by
  have hs := h.by'.size
  refine ⟨⟨k.by'.os.trans h.by'.os, k.by'.tape.trans h.by'.tape, k.by'.output.trans h.by'.output, Nat.le_trans hs k.by'.size, fun j hj hne => ?_⟩, ?_⟩
  · rw [k.by'.block j (by omega) (fun e => ?_)]
    · exact h.by'.block j hj hne
    · have e' := Option.some.inj e
      rcases h.loc with h1 | h1
      · exact hne (by rw [e', h1])
      · omega
  · rcases k.loc with h1 | h1
    · rw [h1]; exact h.loc
    · right; omega

theorem Grew.alloc {w w' : World} {o : Obj} {g g' : Nat} (h : Grew (w.alloc o) w' g g') : Grew w w' g g' := by
  refine ⟨(World.grownBy_alloc w o (some g)).trans h.by', ?_⟩
  rcases h.loc with h1 | h1
  · exact .inl h1
  · right; simp at h1; omega

theorem Grew.below {W w w' : World} {base g g' : Nat} (h : Grew w w' g g') (hb : Below base W w) (hB : base ≤ w.heap.size) (hg : base ≤ g) : Below base W w' :=
  hb.grown h.by' hB (fun k hk => by cases hk; exact hg)

theorem seen_row (w : World) (cs : Array Value) (t : TypeId) (n : Nat) (y : Nat → Int) (h : ∀ i, i < n → cs[i]? = some (.int .u8 (y i))) : Seen .u8 (w.alloc (.cells cs t)) (some ⟨w.heap.size, 0, none⟩) n y := by
  intro i hi
  refine ⟨w.heap.size, 0, rfl, ?_⟩
  unfold World.cell?
  rw [Deep.blk_alloc_new, Nat.zero_add]
  exact h i hi

theorem be4_cells (v : Int) : ∀ i, i < 4 → (#[Value.int IntKind.u8 (v / 16777216), Value.int IntKind.u8 (v / 65536 % 256), Value.int IntKind.u8 (v / 256 % 256), Value.int IntKind.u8 (v % 256)] : Array Value)[i]? = some (.int .u8 (be4 v i))
  | 0, _ => rfl
  | 1, _ => rfl
  | 2, _ => rfl
  | 3, _ => rfl

set_option maxHeartbeats 400000 in
theorem be_any (base g n cap : Nat) (zs : List Int) (v : Int) (w : World) (hn : n ≤ 100000) (h0 : 0 ≤ v) (h1 : v ≤ 4294967295) (hown : Own w base g n cap zs) :
    Calls Yba.prog 13 #[.slice (some ⟨g, 0, none⟩) n cap, .int .u32 v] w fun e w' => ∃ g' cap' L, e = .returned (.slice (some ⟨g', 0, none⟩) L cap') ∧ L ≤ n + 4 ∧ Own w' base g' L cap' (zs ++ (List.range 4).map (be4 v)) ∧ Grew w w' g g' := by
  obtain ⟨i0, hi, hz0, hz1, hz2⟩ := info_parts Yba.info5
  go_enter Yba.func13, Yba.ntmps13
  go_wp2_with (at_builtin; refine wpList_append_seen _ rfl (.tmp 5) (.tmp 17) 22 rfl 5 i0 Yba.underlying22 hi hz0 hz1 hz2 rfl (own_alloc hown _) rfl (seen_row _ _ _ 4 (be4 v) (be4_cells v)) (by omega) ?_; intro g2 c2 w2 o2 hg2 hl2)
  go_ret
  exact ⟨g2, c2, n + 4, rfl, Nat.le_refl _, o2, Grew.alloc ⟨hg2, hl2⟩⟩

set_option maxHeartbeats 400000 in
theorem app32_any (base g n cap : Nat) (zs : List Int) (v : Int) (w : World) (hn : n ≤ 100000) (h0 : 0 ≤ v) (h1 : v ≤ 4294967295) (hown : Own w base g n cap zs) :
    Calls Yba.prog 15 #[.agg #[], .slice (some ⟨g, 0, none⟩) n cap, .int .u32 v] w fun e w' => ∃ g' cap' L, e = .returned (.slice (some ⟨g', 0, none⟩) L cap') ∧ L ≤ n + 4 ∧ Own w' base g' L cap' (zs ++ (List.range 4).map (be4 v)) ∧ Grew w w' g g' := by
  obtain ⟨i0, hi, hz0, hz1, hz2⟩ := info_parts Yba.info5
  have hsz : (w.alloc (.cells #[] 82)).heap.size = w.heap.size + 1 := by simp
  have hS : Seen .u8 ((w.alloc (.cells #[] 82)).alloc (.cells #[Value.int IntKind.u8 (v / 16777216), Value.int IntKind.u8 (v / 65536 % 256), Value.int IntKind.u8 (v / 256 % 256), Value.int IntKind.u8 (v % 256)] 5)) (some ⟨w.heap.size + 1, 0, none⟩) 4 (be4 v) := by
    rw [← hsz]
    exact seen_row _ _ _ 4 (be4 v) (be4_cells v)
  go_enter Yba.func15, Yba.ntmps15
  go_wp2_with (at_builtin; refine wpList_append_seen _ rfl (.tmp 7) (.tmp 19) 22 rfl 5 i0 Yba.underlying22 hi hz0 hz1 hz2 rfl (own_alloc (own_alloc hown _) _) rfl hS (by omega) ?_; intro g2 c2 w2 o2 hg2 hl2)
  go_ret
  exact ⟨g2, c2, n + 4, rfl, Nat.le_refl _, o2, Grew.alloc (Grew.alloc ⟨hg2, hl2⟩)⟩

/-- a duration in milliseconds, cut to 32 bits -/
def ms (d : Int) : Int := (d.tdiv 1000000) % 4294967296
theorem ms_bd (d : Int) : 0 ≤ ms d ∧ ms d ≤ 4294967295 := by unfold ms; omega

set_option maxHeartbeats 400000 in
theorem millis_any (base g n cap : Nat) (zs : List Int) (d : Int) (w : World) (hn : n ≤ 100000) (h0 : -9223372036854775808 ≤ d) (h1 : d ≤ 9223372036854775807) (hown : Own w base g n cap zs) :
    Calls Yba.prog 14 #[.slice (some ⟨g, 0, none⟩) n cap, .int .i64 d] w fun e w' => ∃ g' cap' L, e = .returned (.slice (some ⟨g', 0, none⟩) L cap') ∧ L ≤ n + 4 ∧ Own w' base g' L cap' (zs ++ (List.range 4).map (be4 (ms d))) ∧ Grew w w' g g' := by
  go_enter Yba.func14, Yba.ntmps14
  go_wp2_with fail
  refine (app32_any base g n cap zs (d.tdiv 1000000 % 4294967296) _ hn (ms_bd d).1 (ms_bd d).2 (by exact hown)).mono ?_
  rintro e w2 ⟨g2, c2, L, rfl, hL, o2, h2⟩
  go_wp2
  go_ret
  exact ⟨g2, c2, L, rfl, hL, o2, h2⟩

/-- one more byte -/
theorem seen_one (w : World) (x : Int) (t : TypeId) : Seen .u8 (w.alloc (.cells #[.int .u8 x] t)) (some ⟨w.heap.size, 0, none⟩) 1 (fun _ => x) :=
  seen_row w _ t 1 _ (fun i hi => by cases i with | zero => rfl | succ j => omega)

/-- the request's block stays -/
theorem Grew.keep {w w' : World} {g g' r : Nat} {o : Obj} (h : Grew w w' g g') (hr : w.heap[r]? = some o) (hne : g ≠ r) : w'.heap[r]? = some o ∧ g' ≠ r := by
  have hlt : r < w.heap.size := (Array.getElem?_eq_some_iff.1 hr).1
  refine ⟨(h.by'.block r hlt (fun e => hne (Option.some.inj e).symm)).trans hr, ?_⟩
  rcases h.loc with h1 | h1
  · rw [h1]; exact hne
  · omega

/-- the request's cells -/
def reqC (nz : Nat → Int) (iv bd mode : Int) : Array Value := #[.int .u8 (nz 0), .int .u8 (nz 1), .int .u8 (nz 2), .int .u8 (nz 3), .int .u8 (nz 4), .int .u8 (nz 5), .int .u8 (nz 6), .int .u8 (nz 7), .int .i64 iv, .int .u8 mode, .int .i64 bd]
theorem reqC_nonce (nz : Nat → Int) (iv bd mode : Int) : ∀ i, i < 8 → (reqC nz iv bd mode)[i]? = some (.int .u8 (nz i))
  | 0, _ => rfl
  | 1, _ => rfl
  | 2, _ => rfl
  | 3, _ => rfl
  | 4, _ => rfl
  | 5, _ => rfl
  | 6, _ => rfl
  | 7, _ => rfl
theorem cell_blk {w : World} {r : Nat} {c : Array Value} {t : TypeId} {mk : Nat × Nat} (h : w.heap[r]? = some (.cells c t mk)) {i : Nat} {v : Value} (hv : c[i]? = some v) : w.cell? ⟨r, i, none⟩ = some v := by
  unfold World.cell?
  rw [h]
  exact hv

/-- a body's bytes -/
def bodyB (nz : Nat → Int) (iv bd mode : Int) : List Int := (List.range 8).map nz ++ (List.range 4).map (be4 (ms iv)) ++ (List.range 1).map (fun _ => mode) ++ (List.range 4).map (be4 (ms bd))

set_option maxHeartbeats 1000000 in
set_option maxRecDepth 100000 in
theorem body_any (base g n cap : Nat) (zs : List Int) (nz : Nat → Int) (iv bd mode : Int) (w : World) (hn : n ≤ 10000) (i0 : -9223372036854775808 ≤ iv) (i1 : iv ≤ 9223372036854775807) (j0 : -9223372036854775808 ≤ bd) (j1 : bd ≤ 9223372036854775807) (hown : Own w base g n cap zs) :
    Calls Yba.prog 12 #[.agg #[.int .u8 (nz 0), .int .u8 (nz 1), .int .u8 (nz 2), .int .u8 (nz 3), .int .u8 (nz 4), .int .u8 (nz 5), .int .u8 (nz 6), .int .u8 (nz 7), .int .i64 iv, .int .u8 mode, .int .i64 bd], .slice (some ⟨g, 0, none⟩) n cap] w fun e w' =>
      ∃ g' cap' L, e = .returned (.slice (some ⟨g', 0, none⟩) L cap') ∧ L ≤ n + 17 ∧ Own w' base g' L cap' (zs ++ bodyB nz iv bd mode) ∧ Grew w w' g g' := by
  obtain ⟨e0, hi, hz0, hz1, hz2⟩ := info_parts Yba.info5
  have hlt := hown.lt
  have hblk : (w.alloc (.cells (reqC nz iv bd mode) 75)).heap[w.heap.size]? = some (.cells (reqC nz iv bd mode) 75 (0, 0)) := Deep.blk_alloc_new w _
  have hS : Seen .u8 (w.alloc (.cells (reqC nz iv bd mode) 75)) (some ⟨w.heap.size, 0, none⟩) 8 nz := seen_row w _ 75 8 nz (reqC_nonce nz iv bd mode)
  have hR : Hid (reqC nz iv bd mode = #[.int .u8 (nz 0), .int .u8 (nz 1), .int .u8 (nz 2), .int .u8 (nz 3), .int .u8 (nz 4), .int .u8 (nz 5), .int .u8 (nz 6), .int .u8 (nz 7), .int .i64 iv, .int .u8 mode, .int .i64 bd]) := rfl
  go_enter Yba.func12, Yba.ntmps12
  go_wp2_with (first
    | (at_builtin; refine wpList_append_seen _ rfl (.tmp 5) (.tmp 7) 22 rfl 5 e0 Yba.underlying22 hi hz0 hz1 hz2 rfl (own_alloc hown _) rfl hS (by omega) ?_; intro g1 c1 w1 o1 hg1 hl1; have G1 : Grew (w.alloc (.cells (reqC nz iv bd mode) 75)) w1 g g1 := ⟨hg1, hl1⟩; have K1 := G1.keep hblk (by omega); have x1 : w1.cell? ⟨w.heap.size, 8, none⟩ = some (.int .i64 iv) := cell_blk K1.1 rfl))
  refine (millis_any base g1 (n + 8) c1 _ iv _ (by omega) i0 i1 (by exact o1)).mono ?_
  rintro e w2 ⟨g2, c2, l2, rfl, k2, o2, G2⟩
  have K2 := G2.keep K1.1 K1.2
  have x2 : w2.cell? ⟨w.heap.size, 9, none⟩ = some (.int .u8 mode) := cell_blk K2.1 rfl
  have G12 := G1.trans G2
  clear o1 G1 G2 K1 x1 hg1 hl1
  go_wp2_with (first
    | (at_builtin; refine wpList_append_seen _ rfl (.tmp 13) (.tmp 16) 22 rfl 5 e0 Yba.underlying22 hi hz0 hz1 hz2 rfl (own_alloc o2 _) rfl (seen_one _ _ _) (by omega) ?_; intro g3 c3 w3 o3 hg3 hl3; have G3 : Grew w2 w3 g2 g3 := Grew.alloc ⟨hg3, hl3⟩; have K3 := G3.keep K2.1 K2.2; have x3 : w3.cell? ⟨w.heap.size, 10, none⟩ = some (.int .i64 bd) := cell_blk K3.1 rfl))
  refine (millis_any base g3 (l2 + 1) c3 _ bd _ (by omega) j0 j1 (by exact o3)).mono ?_
  rintro e w4 ⟨g4, c4, l4, rfl, k4, o4, G4⟩
  have G := (G12.trans G3).trans G4
  clear G12 G3 G4 K2 K3 x2 x3 o2 o3 hg3 hl3 hblk hS
  go_wp2
  go_ret
  refine ⟨g4, c4, l4, rfl, by omega, ?_, G.alloc⟩
  simpa [bodyB, List.append_assoc] using o4
end Go.Proofs.Ybulkthg
