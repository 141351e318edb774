import Derived.Test.YbulktfcAdds
namespace Go.Proofs.Ybulktfc
open Go.RowKit

/-- '[]byte(s)': a slice of the call's own -/
theorem own_bytes (w : World) (s : ByteArray) (e : TypeId) (cap : Nat) (hc : s.size ≤ cap) (hm : cap ≤ maxLen) :
    Own (w.drew.alloc (.cells (bytesRow s cap) e ((bytesRow s cap).size, (bytesRow s cap).size + 1))) w.heap.size w.heap.size s.size cap ((List.range s.size).map (strB s)) := by
  have hsz : (bytesRow s cap).size = cap := by
    unfold bytesRow
    rw [Array.size_append, Array.size_map, Array.size_replicate]
    show s.size + (cap - s.size) = cap
    omega
  have hblk : ∀ o, (w.drew.alloc o).heap[w.heap.size]? = some o := fun o => Deep.blk_alloc_new w.drew o
  have hcell : ∀ j mk, (w.drew.alloc (.cells (bytesRow s cap) e mk)).cell? ⟨w.heap.size, j, none⟩ = (bytesRow s cap)[j]? := by
    intro j mk
    unfold World.cell?
    rw [hblk]
    rfl
  refine ⟨by simp, Nat.le_refl _, by simp, hc, hm, fun i hi => ?_, fun i hi => ⟨?_, ?_⟩⟩
  · have hi' : i < s.data.size := hi
    rw [hcell, bytesRow_at s cap i hi']
    have : ((List.range s.size).map (strB s)).getD i 0 = (s.data[i].toNat : Int) := by
      simp [List.getD, hi, strB]
      rfl
    rw [this]
  · rw [hcell, Array.getElem?_eq_getElem (by omega)]
    rfl
  · unfold World.frozen?
    rw [hblk]
    simp [hsz]
    omega

theorem wpList_bytes {P : Program} (w : World) {ops : Array Oper} {rest : List Oper} {o : Oper} {a : Act} {Q : Exit → Act → World → Prop} (hg : o.guard = none) (x : Operand) (src dst : TypeId) (hop : o.op = Op.convert src dst x)
    (e : TypeId) (hs : P.underlying src = some .string) (hd : P.underlying dst = some (.slice e)) (he : P.underlying e = some (.int .u8)) (s : ByteArray) (n : Nat) (hx : a.eval x = .string s) (hn : s.size = n) (hb : n ≤ 1000000)
    (hK : ∀ cap w', Own w' w.heap.size w.heap.size n cap ((List.range n).map (strB s)) → w.grownBy w' none → wpList P ops Q rest (a.put o.dst (.slice (some ⟨w.heap.size, 0, none⟩) n cap)) w') :
    wpList P ops Q (o :: rest) a w := by
  refine wpList_plain hg fun K hK' => ?_
  have hrun := run_bytes_of_string (P := P) w src dst e s hs hd he
  subst hn
  unfold Oper.wp
  simp [execOp, hop, hx, hrun, Result.andThen]
  exact hK' _ _ (hK _ _ (own_bytes w s e _ (grownCap_ge w s.size 0 e) (grownCap_le_maxLen w s.size 0 e (by unfold maxLen; omega))) ⟨rfl, rfl, rfl, by simp, fun k hk _ => Below.heap_alloc w.drew _ k hk⟩)

def preS : ByteArray := ⟨#[99, 111, 110, 99, 111, 114, 100, 97, 116, 47, 104, 97, 110, 100, 115, 104, 97, 107, 101, 47]⟩
def nulS : ByteArray := ⟨#[0]⟩
theorem size_all (role : ByteArray) : (preS ++ role ++ nulS).size = 21 + role.size := by
  rw [ByteArray.size_append, ByteArray.size_append]
  show 20 + role.size + 1 = _
  omega

theorem seen_box (w : World) (net : Array Value) (t : TypeId) (nz : Nat → Int) (hnz : ∀ i, i < 32 → net[i]? = some (.int .u8 (nz i))) {w' : World} (hg : (w.alloc (.cells net t)).grownBy w' none) : Seen .u8 w' (some ⟨w.heap.size, 0, none⟩) 32 nz := by
  intro i hi
  refine ⟨w.heap.size, 0, rfl, ?_⟩
  rw [World.cell?_of_block (w := w.alloc (.cells net t)) (hg.block w.heap.size (by simp) (by simp))]
  unfold World.cell?
  rw [Deep.blk_alloc_new, Nat.zero_add]
  exact hnz i hi

/-- how many bytes the first k parts have -/
def lens (pl : Nat → Nat) : Nat → Nat
  | 0 => 0
  | k + 1 => lens pl k + pl k
/-- the bytes of the first k parts -/
def conts (pl : Nat → Nat) (py : Nat → Nat → Int) : Nat → List Int
  | 0 => []
  | k + 1 => conts pl py k ++ (List.range (pl k)).map (py k)
/-- the transcript's head -/
def headB (role : ByteArray) (nz : Nat → Int) : List Int := (List.range (21 + role.size)).map (strB (preS ++ role ++ nulS)) ++ (List.range 32).map nz

theorem lens_le {pl : Nat → Nat} (h : ∀ j, j < 4 → pl j ≤ 1024) : ∀ k, k ≤ 4 → lens pl k ≤ 1024 * k
  | 0, _ => by simp [lens]
  | k + 1, hk => by
    have := lens_le h k (by omega)
    have := h k (by omega)
    simp only [lens]
    omega

/-- the loop's memory behind k rounds -/
structure Parts (w wr : World) (pB g n cap : Nat) (role : ByteArray) (pa : Nat → Option Addr) (pl pc : Nat → Nat) (py : Nat → Nat → Int) (nz : Nat → Int) (k : Nat) : Prop where
  own : Own wr w.heap.size g n cap (headB role nz ++ conts pl py k)
  below : Below w.heap.size w wr
  ne : g ≠ pB
  lt : pB < wr.heap.size
  cell : ∀ j, j < 4 → wr.cell? ⟨pB, j, none⟩ = some (.slice (pa j) (pl j) (pc j))

theorem parts_start {w w0 w2 : World} {g0 g2 cap2 : Nat} {role : ByteArray} {net : Array Value} {pa : Nat → Option Addr} {pl pc : Nat → Nat} {py : Nat → Nat → Int} {nz : Nat → Int} (hg0 : w.heap.size + 1 ≤ g0)
    (hb : (w.alloc (.cells net 22)).grownBy w0 none) (h1 : Own w2 (w.heap.size + 1) g2 (21 + role.size + 32) cap2 (headB role nz)) (h2 : w0.grownBy w2 (some g0)) :
    Parts w (w2.alloc (.cells #[.slice (pa 0) (pl 0) (pc 0), .slice (pa 1) (pl 1) (pc 1), .slice (pa 2) (pl 2) (pc 2), .slice (pa 3) (pl 3) (pc 3)] 23)) w2.heap.size g2 (21 + role.size + 32 + lens pl 0) cap2 role pa pl pc py nz 0 := by
  have hs0 := hb.size
  have hs2 := h2.size
  simp at hs0
  have hB : Below w.heap.size w w2 := (((Below.refl w.heap.size w).alloc (Nat.le_refl _) _).grown hb (by simp) (fun k h => by cases h)).grown h2 (by omega) (fun k hk => by cases hk; omega)
  refine ⟨?_, hB.alloc hB.size _, ?_, by simp, fun j hj => ?_⟩
  · have := own_mono (own_alloc h1 (.cells #[.slice (pa 0) (pl 0) (pc 0), .slice (pa 1) (pl 1) (pc 1), .slice (pa 2) (pl 2) (pc 2), .slice (pa 3) (pl 3) (pc 3)] 23)) (Nat.le_succ w.heap.size)
    simpa [conts, lens] using this
  · have := h1.lt; omega
  · unfold World.cell?
    rw [Deep.blk_alloc_new]
    match j, hj with
    | 0, _ => rfl
    | 1, _ => rfl
    | 2, _ => rfl
    | 3, _ => rfl

theorem parts_step {w wr w' : World} {pB g n cap g' cap' : Nat} {role : ByteArray} {pa : Nat → Option Addr} {pl pc : Nat → Nat} {py : Nat → Nat → Int} {nz : Nat → Int} {k : Nat} (H : Parts w wr pB g n cap role pa pl pc py nz k)
    (h1 : Own w' w.heap.size g' (n + pl k) cap' (headB role nz ++ conts pl py k ++ (List.range (pl k)).map (py k))) (h2 : wr.grownBy w' (some g)) (h3 : g' = g ∨ wr.heap.size ≤ g') :
    Parts w w' pB g' (n + pl k) cap' role pa pl pc py nz (k + 1) := by
  have hlt := H.lt
  refine ⟨?_, H.below.grown h2 H.below.size (fun j hj => by cases hj; exact H.own.base), ?_, Nat.lt_of_lt_of_le H.lt h2.size, fun j hj => ?_⟩
  · simp only [conts]
    rw [← List.append_assoc]
    exact h1
  · rcases h3 with rfl | h3
    · exact H.ne
    · omega
  · exact h2.cell (H.cell j hj) (by intro e; exact H.ne (Option.some.inj e).symm)

set_option maxHeartbeats 400000 in
theorem transcript_any (net : Array Value) (role : ByteArray) (pa : Nat → Option Addr) (pl pc : Nat → Nat) (py : Nat → Nat → Int) (nz : Nat → Int) (w : World) (hnz : ∀ i, i < 32 → net[i]? = some (.int .u8 (nz i)))
    (hr : role.size ≤ 1024) (hpl : ∀ j, j < 4 → pl j ≤ 1024) (W : World) (hW : Below W.heap.size W w) (hs : ∀ j, j < 4 → Seen .u8 W (pa j) (pl j) (py j)) :
    Calls Yba.prog 8 #[.agg net, .string role, .slice (pa 0) (pl 0) (pc 0), .slice (pa 1) (pl 1) (pc 1), .slice (pa 2) (pl 2) (pc 2), .slice (pa 3) (pl 3) (pc 3)] w fun e w' =>
      ∃ g cap, e = .returned (.slice (some ⟨g, 0, none⟩) (21 + role.size + 32 + lens pl 4) cap) ∧ Own w' w.heap.size g (21 + role.size + 32 + lens pl 4) cap (headB role nz ++ conts pl py 4) ∧ Below w.heap.size w w' := by
  obtain ⟨i0, hi, hz0, hz1, hz2⟩ := info_parts Yba.info5
  have hsz : (w.alloc (.cells net 22)).heap.size = w.heap.size + 1 := by simp
  have hS := fun w' => seen_box w net 22 nz hnz (w' := w')
  go_enter Yba.func8, Yba.ntmps8
  go_wp2_with (first
    | (refine wpList_bytes _ rfl (.tmp 18) 9 23 rfl 5 Yba.underlying9 Yba.underlying23 Yba.underlying5 _ (21 + role.size) rfl (size_all role) (by omega) ?_; intro cap0 w0 ho0 hg0; rw [hsz] at ho0)
    | (at_builtin; refine wpList_append_seen _ rfl (.tmp 19) (.tmp 20) 23 rfl 5 i0 Yba.underlying23 hi hz0 hz1 hz2 rfl ho0 rfl (hS _ hg0) (by omega) ?_; intro g2 cap2 w2 h1 h2 h3))
  have hst := parts_start (pa := pa) (pl := pl) (pc := pc) (py := py) ho0.base hg0 h1 h2
  clear hS ho0 hg0 h1 h2 h3 hsz hnz
  go_loopw [13, 28] (fun v i wr => ∃ k g cap, k ≤ 4 ∧ i = .int .i64 (k : Nat) ∧ v = .slice (some ⟨g, 0, none⟩) (21 + role.size + 32 + lens pl k) cap ∧ Parts w wr w2.heap.size g (21 + role.size + 32 + lens pl k) cap role pa pl pc py nz k) (fun _ i _ => 4 - (intOf i).toNat)
  case atStart => exact ⟨0, g2, cap2, by omega, rfl, rfl, hst⟩
  case round =>
    clear hst
    obtain ⟨k, g, cap, hk, rfl, rfl, hP⟩ := hrel
    have hle := lens_le hpl k hk
    by_cases hlt : k < 4
    · have g1 := hP.cell k hlt
      have hS : Seen .u8 wr (pa k) (pl k) (py k) := seen_below (hs k hlt) (hW.trans (hP.below.mono hW.size))
      have ho := hP.own
      have hpk := hpl k hlt
      go_wp2_with (at_builtin; refine wpList_append_seen _ rfl (.tmp 32) (.tmp 33) 23 rfl 5 i0 Yba.underlying23 hi hz0 hz1 hz2 rfl ho rfl hS (by omega) ?_; intro g3 cap3 w3 h1 h2 h3)
      have S := parts_step hP h1 h2 h3
      clear h1 h2 h3 ho hS g1 hP hs
      go_wp2
      go_roundw
      case rel => exact ⟨k + 1, g3, cap3, by omega, by go_num, by rw [show lens pl (k + 1) = lens pl k + pl k from rfl, ← Nat.add_assoc], by rw [show lens pl (k + 1) = lens pl k + pl k from rfl, ← Nat.add_assoc]; exact S⟩
      case measure => simp [intOf]; omega
    · obtain rfl : k = 4 := by omega
      go_wp2
      go_ret
      exact ⟨g, cap, rfl, hP.own, hP.below⟩
end Go.Proofs.Ybulktfc
