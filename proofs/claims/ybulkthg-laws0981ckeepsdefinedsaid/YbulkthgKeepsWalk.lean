import Derived.Test.YbulkthgKeeps
namespace Go.Proofs.Ybulkthg
open Go.RowKit

theorem seenS_below {W w' : World} {a : Option Addr} {n : Nat} {ns : Nat → ByteArray} (h : SeenS W a n ns) (hb : Below W.heap.size W w') : SeenS w' a n ns := by
  intro i hi
  obtain ⟨b, off, ha, hc⟩ := h i hi
  exact ⟨b, off, ha, (hb.cell (World.block_lt_of_cell? W _ hc)).trans hc⟩

set_option maxHeartbeats 1000000 in
set_option maxRecDepth 100000 in
theorem keeps_any (a am : Option Addr) (n cap m capm : Nat) (ns : Nat → ByteArray) (mk : Nat → Bool) (w : World) (hn : n ≤ 256) (hm : m ≤ maxLen) (hs : ∀ i, i < n → (ns i).size ≤ maxLen) (ha : SeenS w a n ns) (hb : SeenB w am m mk) :
    Calls Yba.prog 6 #[.slice a n cap, .slice am m capm] w fun e w' => e = .returned (.bool true) ∧ Below w.heap.size w w' := by
  unfold maxLen at hm
  go_enter Yba.func6, Yba.ntmps6
  go_wp2_with fail
  refine (newDecoder_any w).mono ?_
  rintro e w1 ⟨rfl, hD, hB, hz⟩
  have hst := kp_start (ns := ns) (m := m) (mk := mk) hD hB
  clear hD hB hz
  go_wp2
  go_loopw [18] (fun i wr => ∃ k : Nat, k ≤ n ∧ i = .int .i64 (k : Nat) ∧ ∃ mo f c, Kp w wr k ns m mk mo f c) (fun i _ => n - (intOf i).toNat)
  case atStart => exact ⟨0, Nat.zero_le _, rfl, _, _, _, hst⟩
  case round =>
    clear hst
    obtain ⟨k, hk, rfl, mo, f, c, hS⟩ := hrel
    by_cases hlt : k < n
    · obtain ⟨b, off, rfl, hc⟩ := ha k hlt
      have g1 : wr.cell? ⟨b, off + k, none⟩ = some (.string (ns k)) := (hS.below.cell (World.block_lt_of_cell? w _ hc)).trans hc
      have hcn : c ≤ 100000 := by have := hS.fil.cnt; have := dist_le ns k; omega
      have C := named_any w.heap.size (w.heap.size + 1) c mo f (gOf ns m mk k) (ns k) wr (hs k hlt) hcn hS.dec
      clear hc
      go_wp2_with fail
      refine C.mono ?_
      rintro e w2 ⟨p, rfl, hN⟩
      obtain ⟨B2, fz, ⟨d0, hd0⟩, Sno, Syes⟩ := kp_call hS hN
      clear C hN hS g1
      by_cases hkm : k < m
      · obtain ⟨b', off', rfl, hc⟩ := hb k hkm
        have g2 : w2.cell? ⟨b', off' + k, none⟩ = some (.bool (mk k)) := (B2.cell (World.block_lt_of_cell? w _ hc)).trans hc
        clear hc
        cases hmk : mk k with
        | true =>
          have S := Syes (by simp [mkd, hkm, hmk])
          clear Sno Syes
          rw [hmk] at g2
          go_wp2
          go_roundw
          case rel => exact ⟨k + 1, by omega, by go_num, S⟩
          case measure => simp [intOf]; omega
        | false =>
          have S := Sno (by simp [mkd, hmk])
          clear Sno Syes
          rw [hmk] at g2
          go_wp2
          go_roundw
          case rel => exact ⟨k + 1, by omega, by go_num, S⟩
          case measure => simp [intOf]; omega
      · have S := Sno (by simp [mkd, hkm])
        clear Sno Syes
        go_wp2
        go_roundw
        case rel => exact ⟨k + 1, by omega, by go_num, S⟩
        case measure => simp [intOf]; omega
    · obtain rfl : k = n := by omega
      clear hk hlt
      obtain ⟨w2, hw2⟩ : ∃ x, x = wr := ⟨_, rfl⟩
      rw [← hw2] at hS ⊢
      clear hw2
      go_wp2
      go_loopw [45] (fun i wr => ∃ t : Nat, t ≤ k ∧ i = .int .i64 (t : Nat) ∧ ∃ q, wr = w2.drewN q) (fun i _ => k - (intOf i).toNat)
      case atStart => exact ⟨0, Nat.zero_le _, rfl, 0, rfl⟩
      case round =>
        obtain ⟨t, ht, rfl, q, rfl⟩ := hrel
        by_cases hlt : t < k
        · obtain ⟨b, off, rfl, hc⟩ := ha t hlt
          have g1 : w2.cell? ⟨b, off + t, none⟩ = some (.string (ns t)) := (hS.below.cell (World.block_lt_of_cell? w _ hc)).trans hc
          have hti : (t : Int) < (k : Int) := by omega
          have ht0 : (0 : Int) ≤ (t : Int) := by omega
          clear hc
          go_wp2
          go_loopw [9, 50] (fun v j wr => ∃ r : Nat, r ≤ k ∧ j = .int .i64 (r : Nat) ∧ v = .bool (gOf ns m mk r (key ns t)) ∧ ∃ q, wr = w2.drewN q) (fun _ j _ => k - (intOf j).toNat)
          case atStart => exact ⟨0, Nat.zero_le _, rfl, rfl, _, rfl⟩
          case round =>
            obtain ⟨r, hr, rfl, rfl, q, rfl⟩ := hrel
            by_cases hrk : r < k
            · obtain ⟨b', off', he, hc⟩ := ha r hrk
              simp at he
              obtain ⟨rfl, rfl⟩ := he
              have g2 : w2.cell? ⟨b, off + r, none⟩ = some (.string (ns r)) := (hS.below.cell (World.block_lt_of_cell? w _ hc)).trans hc
              have hri : (r : Int) < (k : Int) := by omega
              have hr0 : (0 : Int) ≤ (r : Int) := by omega
              have G := gOf_succ ns m mk r (key ns t)
              clear hc
              cases hx : ((ns r).toList == (ns t).toList) with
              | false =>
                have hkk : (key ns r == key ns t) = false := by simpa using key_ne hx
                have S : Hid (gOf ns m mk (r + 1) (key ns t) = gOf ns m mk r (key ns t)) := by rw [G, hkk]; simp [Hid]
                clear G hkk
                go_wp2
                go_quiet (fail)
                go_wp2
                go_roundw
                case rel => exact ⟨r + 1, by omega, by go_num, by rw [S.out], _, rfl⟩
                case measure => simp [intOf]; omega
              | true =>
                have hkk : (key ns r == key ns t) = true := by simpa using key_eq hx
                by_cases hrm : r < m
                · obtain ⟨b3, off3, rfl, hc⟩ := hb r hrm
                  have g3 : w2.cell? ⟨b3, off3 + r, none⟩ = some (.bool (mk r)) := (hS.below.cell (World.block_lt_of_cell? w _ hc)).trans hc
                  have hrmi : (r : Int) < (m : Int) := by omega
                  clear hc
                  cases hmk : mk r with
                  | true =>
                    have S : Hid (gOf ns m mk (r + 1) (key ns t) = true) := by rw [G, hkk]; simp [Hid, mkd, hrm, hmk]
                    rw [hmk] at g3
                    clear G hkk
                    go_wp2
                    go_quiet (fail)
                    go_wp2
                    go_roundw
                    case rel => exact ⟨r + 1, by omega, by go_num, by rw [S.out], _, rfl⟩
                    case measure => simp [intOf]; omega
                  | false =>
                    have S : Hid (gOf ns m mk (r + 1) (key ns t) = gOf ns m mk r (key ns t)) := by rw [G, hkk]; simp [Hid, mkd, hmk]
                    rw [hmk] at g3
                    clear G hkk
                    go_wp2
                    go_quiet (fail)
                    go_wp2
                    go_roundw
                    case rel => exact ⟨r + 1, by omega, by go_num, by rw [S.out], _, rfl⟩
                    case measure => simp [intOf]; omega
                · have hd : decide ((r : Int) < (m : Int)) = false := decide_eq_false (by omega)
                  have S : Hid (gOf ns m mk (r + 1) (key ns t) = gOf ns m mk r (key ns t)) := by rw [G, hkk]; simp [Hid, mkd, hrm]
                  clear G hkk
                  go_wp2
                  go_quiet (fail)
                  go_wp2
                  go_roundw
                  case rel => exact ⟨r + 1, by omega, by go_num, by rw [S.out], _, rfl⟩
                  case measure => simp [intOf]; omega
            · obtain rfl : r = k := by omega
              obtain ⟨p, mB, rfl, hfp, r1, r2⟩ := kp_read hS hlt
              have C := named_old w.heap.size (w.heap.size + 1) mB p c f (gOf ns m mk r) (ns t) (w2.drewN q) (hs t hlt) (dec_carry hS.dec (below_drewN (Below.refl _ _) _)) hfp
              generalize gOf ns m mk r (key ns t) = x at r2 ⊢
              go_wp2_with fail
              refine C.mono ?_
              rintro e w3 ⟨rfl, rfl⟩
              clear C
              cases x
              all_goals
                go_wp2
                go_quiet (fail)
                go_wp2
                go_roundw
                case rel => exact ⟨t + 1, by omega, by go_num, _, rfl⟩
                case measure => simp [intOf]; omega
        · obtain rfl : t = k := by omega
          have hfl := hS.dec.fld
          have hA : SeenS (w2.drewN q) a t ns := seenS_below ha (below_drewN hS.below q)
          have hcnt := hS.fil.cnt
          subst hcnt
          cases mo with
          | none =>
            have hz : Hid (dist ns t = 0) := (hS.dec.tab.nil rfl).1
            have hln : ∀ w ty, (Builtin.len_ #[65] ty #[.map none]).run Yba.prog w = .ok (.int .i64 0) w := fun w ty => Maps.len_nil Yba.underlying65 ty
            have Cd := distinct_any a t cap ns _ hn hA
            rw [hz.out] at Cd
            go_wp2_with fail
            refine Cd.mono ?_
            rintro e w3 ⟨rfl, q', rfl⟩
            go_wp2
            go_ret
            exact ⟨rfl, below_drewN hS.below _⟩
          | some mB =>
            obtain ⟨D, hD, hsz, _, _⟩ := hS.dec.tab.map mB rfl
            go_wp2_with (at_len; refine wpList_len_own _ rfl _ 65 rfl 9 34 Yba.underlying65 ptrElem mB _ D rfl (by exact hD) ?_)
            refine (distinct_any a t cap ns _ hn (by exact hA)).mono ?_
            rintro e w3 ⟨rfl, q', rfl⟩
            go_wp2
            go_ret
            exact ⟨by simp, below_drewN hS.below _⟩
end Go.Proofs.Ybulkthg
