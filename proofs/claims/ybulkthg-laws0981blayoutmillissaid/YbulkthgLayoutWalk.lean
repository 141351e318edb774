import Derived.Test.YbulkthgCheckWalk
import Derived.Deep.RegionWith
namespace Go.Proofs.Ybulkthg
open Go.RowKit

set_option maxHeartbeats 400000 in
theorem check_long (a : Option Addr) (n c : Nat) (nz : Nat → Int) (iv bd mode : Int) (w : World) (hn : 1024 < n) (hm : n ≤ maxLen) :
    Calls Yba.prog 7 #[.slice a n c, .agg #[.int .u8 (nz 0), .int .u8 (nz 1), .int .u8 (nz 2), .int .u8 (nz 3), .int .u8 (nz 4), .int .u8 (nz 5), .int .u8 (nz 6), .int .u8 (nz 7)], .int .i64 iv, .int .i64 bd, .int .u8 mode] w fun e w' =>
      e = .returned (.bool true) ∧ Below w.heap.size w w' := by
  unfold maxLen at hm
  go_enter Yba.func7, Yba.ntmps7
  go_wp2
  go_ret
  exact ⟨rfl, (Below.refl _ _).alloc (Nat.le_refl _) _⟩

theorem check_full (a : Option Addr) (n c : Nat) (y nz : Nat → Int) (iv bd mode : Int) (w : World) (hm : n ≤ maxLen) (i0 : -9223372036854775808 ≤ iv) (i1 : iv ≤ 9223372036854775807) (j0 : -9223372036854775808 ≤ bd) (j1 : bd ≤ 9223372036854775807) (hs : Seen .u8 w a n y) :
    Calls Yba.prog 7 #[.slice a n c, .agg #[.int .u8 (nz 0), .int .u8 (nz 1), .int .u8 (nz 2), .int .u8 (nz 3), .int .u8 (nz 4), .int .u8 (nz 5), .int .u8 (nz 6), .int .u8 (nz 7)], .int .i64 iv, .int .i64 bd, .int .u8 mode] w fun e w' =>
      e = .returned (.bool true) ∧ Below w.heap.size w w' := by
  by_cases h : n ≤ 1024
  · exact check_any a n c y nz iv bd mode w h i0 i1 j0 j1 hs
  · exact check_long a n c nz iv bd mode w (by omega) hm

set_option maxHeartbeats 400000 in
theorem raw_any (a : Option Addr) (n c : Nat) (y nz : Nat → Int) (iv bd mode : Int) (w : World) (hm : n ≤ maxLen) (i0 : -9223372036854775808 ≤ iv) (i1 : iv ≤ 9223372036854775807) (j0 : -9223372036854775808 ≤ bd) (j1 : bd ≤ 9223372036854775807) (hs : Seen .u8 w a n y) :
    Calls Yba.prog 4 #[.slice a n c, .agg #[.int .u8 (nz 0), .int .u8 (nz 1), .int .u8 (nz 2), .int .u8 (nz 3), .int .u8 (nz 4), .int .u8 (nz 5), .int .u8 (nz 6), .int .u8 (nz 7)], .int .i64 iv, .int .u8 mode, .int .i64 bd] w fun e w' =>
      e = .returned (.bool true) ∧ Below w.heap.size w w' := by
  have B0 : ∀ o, Below w.heap.size w (w.alloc o) := fun o => (Below.refl w.heap.size w).alloc (Nat.le_refl _) _
  go_enter Yba.func4, Yba.ntmps4
  go_wp2_with fail
  refine (check_full a n c y nz iv bd mode _ hm i0 i1 j0 j1 (by exact seen_below hs (B0 _))).mono ?_
  rintro e w2 ⟨rfl, hb⟩
  go_wp2
  go_ret
  exact ⟨rfl, (B0 _).trans (hb.mono (by simp))⟩

set_option maxHeartbeats 400000 in
theorem dur_any (t s : Int) (w : World) (t0 : -2147483648 ≤ t) (t1 : t ≤ 2147483647) (s0 : 0 ≤ s) (s1 : s ≤ 4294967295) :
    Calls Yba.prog 8 #[.int .i32 t, .int .u32 s] w fun e w' => e = .returned (.int .i64 (t * 1000000 + s % 1000000)) ∧ w' = w := by
  go_enter Yba.func8, Yba.ntmps8
  go_wp2
  go_ret
  exact ⟨rfl, rfl⟩

set_option maxHeartbeats 1000000 in
theorem millisLaw_any (a : Option Addr) (n c : Nat) (y nz : Nat → Int) (t s mode t' s' : Int) (w : World) (hm : n ≤ maxLen) (t0 : -2147483648 ≤ t) (t1 : t ≤ 2147483647) (s0 : 0 ≤ s) (s1 : s ≤ 4294967295) (t2 : -2147483648 ≤ t') (t3 : t' ≤ 2147483647) (s2 : 0 ≤ s') (s3 : s' ≤ 4294967295) (hs : Seen .u8 w a n y) :
    Calls Yba.prog 3 #[.slice a n c, .agg #[.int .u8 (nz 0), .int .u8 (nz 1), .int .u8 (nz 2), .int .u8 (nz 3), .int .u8 (nz 4), .int .u8 (nz 5), .int .u8 (nz 6), .int .u8 (nz 7)], .int .i32 t, .int .u32 s, .int .u8 mode, .int .i32 t', .int .u32 s'] w fun e w' =>
      e = .returned (.bool true) ∧ Below w.heap.size w w' := by
  have B0 : ∀ o, Below w.heap.size w (w.alloc o).drew := fun o => ((Below.refl w.heap.size w).alloc (Nat.le_refl _) _).drew
  go_enter Yba.func3, Yba.ntmps3
  go_wp2
  go_region_with (first
    | (go_at_call 8; refine (dur_any _ _ _ (by omega) (by omega) (by omega) (by omega)).mono ?_; rintro e w' ⟨rfl, rfl⟩)
    | (go_at_call 7; refine (check_full a n c y nz (t * 1000000 + s % 1000000) (t' * 1000000 + s' % 1000000) mode _ hm (by omega) (by omega) (by omega) (by omega) (by exact seen_below hs (B0 _))).mono ?_; rintro e w2 ⟨rfl, hb⟩))
  all_goals
    go_wp2
    go_ret
    exact ⟨rfl, (B0 _).trans (hb.mono (by simp))⟩
end Go.Proofs.Ybulkthg
