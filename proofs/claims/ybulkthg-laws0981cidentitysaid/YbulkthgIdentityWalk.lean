import Derived.Test.YbulkthgState
namespace Go.Proofs.Ybulkthg
open Go.RowKit

theorem Yba.info34 : (Yba.prog.info? 34).map (fun i => (i.zero, i.size, i.bytes)) = some (some (.pointer none), 1, 8) := by kernel_rfl

theorem seenS_below {W w' : World} {a : Option Addr} {n : Nat} {ns : Nat → ByteArray} (h : SeenS W a n ns) (hb : Below W.heap.size W w') : SeenS w' a n ns := by
  intro i hi
  obtain ⟨b, off, ha, hc⟩ := h i hi
  exact ⟨b, off, ha, (hb.cell (World.block_lt_of_cell? W _ hc)).trans hc⟩

theorem st_row {w wr w' : World} {n k b : Nat} {ns : Nat → ByteArray} {mo : Option Nat} {f : List UInt8 → Option Nat} {c : Nat} {s : List UInt8} (h : St w wr n k ns mo f c) (hN : Named wr w' w.heap.size (w.heap.size + 1) mo f (fun _ => false) c s b) :
    w'.rowIs (w.heap.size + 2) 34 n (ptrRow f ns k) := by
  obtain ⟨mo', hD, hb, hmo, hsame, hfr⟩ := hN
  exact h.row.of_block (hfr _ h.row.lt (by omega) h.mne)

theorem st_drewN {w wr : World} {n k : Nat} {ns : Nat → ByteArray} {mo : Option Nat} {f : List UInt8 → Option Nat} {c : Nat} (h : St w wr n k ns mo f c) (q : Nat) : St w (wr.drewN q) n k ns mo f c :=
  ⟨dec_carry h.dec (below_drewN (Below.refl _ _) _), below_drewN h.below q, h.mne, h.row.of_block rfl, h.fil⟩

set_option maxHeartbeats 1000000 in
set_option maxRecDepth 100000 in
theorem identity_any (a : Option Addr) (n cap : Nat) (ns : Nat → ByteArray) (w : World) (hn : n ≤ 256) (hs : ∀ i, i < n → (ns i).size ≤ maxLen) (ha : SeenS w a n ns) :
    Calls Yba.prog 5 #[.slice a n cap] w fun e w' => e = .returned (.bool true) ∧ Below w.heap.size w w' := by
  have hmk := run_make_row' (P := Yba.prog) 33 34 (.pointer none) 8 Yba.underlying33 Yba.info34 rfl .i64 .i64 n (by omega) (by omega)
  go_enter Yba.func5, Yba.ntmps5
  go_wp2_with fail
  refine (newDecoder_any w).mono ?_
  rintro e w1 ⟨rfl, hD, hB, hz⟩
  have hst := st_start (n := n) (ns := ns) hD hB hz
  clear hD hB
  go_wp2
  go_loopw [18] (fun i wr => ∃ k : Nat, k ≤ n ∧ i = .int .i64 (k : Nat) ∧ ∃ mo f c, St w wr n k ns mo f c) (fun i _ => n - (intOf i).toNat)
  case atStart => exact ⟨0, Nat.zero_le _, rfl, _, _, _, hst⟩
  case round =>
    clear hst
    obtain ⟨k, hk, rfl, mo, f, c, hS⟩ := hrel
    by_cases hlt : k < n
    · obtain ⟨b, off, rfl, hc⟩ := ha k hlt
      have g1 : wr.cell? ⟨b, off + k, none⟩ = some (.string (ns k)) := (hS.below.cell (World.block_lt_of_cell? w _ hc)).trans hc
      have hcn : c ≤ 100000 := by have := hS.fil.cnt; have := dist_le ns k; omega
      have C := named_any w.heap.size (w.heap.size + 1) c mo f (fun _ => false) (ns k) wr (hs k hlt) hcn hS.dec
      clear hc hmk
      go_wp2_with fail
      refine C.mono ?_
      rintro e w2 ⟨b2, rfl, hN⟩
      have R := st_row hS hN
      have g3 := R.cell hlt
      have g4 := R.frozen k
      have S := st_step hS hlt hN
      clear C R hS hN
      go_wp2
      go_roundw
      case rel => exact ⟨k + 1, by omega, by go_num, S⟩
      case measure => simp [intOf]; omega
    · obtain rfl : k = n := by omega
      clear hk hlt
      obtain ⟨w2, hw2⟩ : ∃ x, x = wr := ⟨_, rfl⟩
      rw [← hw2] at hS ⊢
      clear hw2 hmk hz
      go_wp2
      go_loopw [33] (fun i wr => ∃ m : Nat, m ≤ k ∧ i = .int .i64 (m : Nat) ∧ ∃ q, wr = w2.drewN q) (fun i _ => k - (intOf i).toNat)
      case atStart => exact ⟨0, Nat.zero_le _, rfl, 0, rfl⟩
      case round =>
        obtain ⟨m, hm, rfl, q, rfl⟩ := hrel
        by_cases hlt : m < k
        · obtain ⟨b, off, rfl, hc⟩ := ha m hlt
          have g1 : w2.cell? ⟨b, off + m, none⟩ = some (.string (ns m)) := (hS.below.cell (World.block_lt_of_cell? w _ hc)).trans hc
          obtain ⟨p, mB, D, rfl, hfp, hD, hat, r0, r1, r2, r3, r4⟩ := st_read hS hlt
          have hfl := hS.dec.fld
          have hlk : ∀ q, (Instr.lookup 65 (.map (some mB)) (.string (ns m)) false).run Yba.prog (w2.drewN q) = .ok (.pointer (some ⟨p, 0, none⟩)) (w2.drewN q) := by
            intro q
            obtain ⟨v, ps, hrun, hv⟩ := World.ownsMap.lookup (w := w2.drewN q) (t := 65) (e := 34) (z := .pointer none) hD law9 Yba.underlying65 (zero34 _) (ptrElem_of none) (WideMaps.keyOf_string_mk Yba.underlying9 (hs m hlt))
            rw [show D.atKey (.string (ns m).data.toList) (encP none) = encP (some p) from hat] at hv
            rw [hrun, ptrElem_inv hv]
            rfl
          have hnq := neq34
          have hli : (m : Int) < (k : Int) := by omega
          have hl0 : (0 : Int) ≤ (m : Int) := by omega
          clear hc hat hD
          go_wp2
          go_quiet (fail)
          go_wp2
          go_quiet (fail)
          go_wp2
          clear g1 r1 r2 r3 r4 hlk hfl hnq
          go_loopw [85] (fun j wr => ∃ t : Nat, t ≤ k ∧ j = .int .i64 (t : Nat) ∧ ∃ q, wr = w2.drewN q) (fun j _ => k - (intOf j).toNat)
          case atStart => exact ⟨0, Nat.zero_le _, rfl, _, rfl⟩
          case round =>
            obtain ⟨t, ht, rfl, q, rfl⟩ := hrel
            by_cases hlt' : t < k
            · obtain ⟨b', off', he, hc⟩ := ha t hlt'
              simp at he
              obtain ⟨rfl, rfl⟩ := he
              have g1 : w2.cell? ⟨b, off + t, none⟩ = some (.string (ns t)) := (hS.below.cell (World.block_lt_of_cell? w _ hc)).trans hc
              obtain ⟨_, _, _, hc2⟩ := ha m hlt
              rename_i he2
              simp at he2
              obtain ⟨rfl, rfl⟩ := he2
              have g2 : w2.cell? ⟨b, off + m, none⟩ = some (.string (ns m)) := (hS.below.cell (World.block_lt_of_cell? w _ hc2)).trans hc2
              obtain ⟨p', _, _, _, hfp', _, _, r5, _⟩ := st_read hS hlt'
              have hpe := st_pair hS hfp hfp'
              have hti : (t : Int) < (k : Int) := by omega
              have ht0 : (0 : Int) ≤ (t : Int) := by omega
              clear hc hc2
              cases hx : ((ns m).toList == (ns t).toList) <;> rw [hx] at hpe
              all_goals
                go_wp2
                go_quiet (fail)
                go_wp2
                go_roundw
                case rel => exact ⟨t + 1, by omega, by go_num, _, rfl⟩
                case measure => simp [intOf]; omega
            · go_wp2
              go_roundw
              case rel => exact ⟨m + 1, by omega, by go_num, _, rfl⟩
              case measure => simp [intOf]; omega
        · obtain rfl : m = k := by omega
          have hfl := hS.dec.fld
          have hA : SeenS (w2.drewN q) a m ns := seenS_below ha (below_drewN hS.below q)
          have hcnt := hS.fil.cnt
          subst hcnt
          cases mo with
          | none =>
            have hz : Hid (dist ns m = 0) := (hS.dec.tab.nil rfl).1
            have hln : ∀ w ty, (Builtin.len_ #[65] ty #[.map none]).run Yba.prog w = .ok (.int .i64 0) w := fun w ty => Maps.len_nil Yba.underlying65 ty
            have Cd := distinct_any a m cap ns _ hn hA
            rw [hz.out] at Cd
            go_wp2_with fail
            refine Cd.mono ?_
            rintro e w3 ⟨rfl, q', rfl⟩
            go_wp2
            go_ret
            exact ⟨rfl, below_drewN hS.below _⟩
          | some mB =>
            obtain ⟨D, hD, hsz, _, _⟩ := hS.dec.tab.map mB rfl
            go_wp2_with (at_len; refine wpList_len_own _ rfl _ 65 rfl 9 34 Yba.underlying65 ptrElem mB _ D rfl (by exact hD) ?_)
            refine (distinct_any a m cap ns _ hn (by exact hA)).mono ?_
            rintro e w3 ⟨rfl, q', rfl⟩
            go_wp2
            go_ret
            exact ⟨by simp, below_drewN hS.below _⟩
end Go.Proofs.Ybulkthg
