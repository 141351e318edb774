import Derived.Test.YbulktfcExactWalk
import Derived.Test.YbulktfcOpenArgs
import Derived.WalkKit
namespace Go.Proofs.Ybulktfc.lawS0977AExact
open Go.ChangeShapes Go.WideShapes Go.ChangeAt Go.RowKit
open Go.ChangeMaps (open_string shut_string)
set_option linter.unusedVariables false

theorem own : ownKnob Yba.prog.godebug = none := by kernel_rfl
theorem laidOut : laidOutB Yba.prog = true := by kernel_rfl
theorem cells22 : Yba.prog.cellsOf 22 = 32 := by kernel_rfl
theorem cells5 : Yba.prog.cellsOf 5 = 1 := by kernel_rfl

set_option maxHeartbeats 1000000 in
set_option maxRecDepth 100000 in
/-- the law's own first test: a length beyond 1024 -/
theorem walk_long (net : Array Value) (role : ByteArray) (a0 a1 a2 a3 : Option Addr) (n0 n1 n2 n3 c0 c1 c2 c3 : Nat) (w : World) (hr : role.size ≤ maxLen) (m0 : n0 ≤ maxLen) (m1 : n1 ≤ maxLen) (m2 : n2 ≤ maxLen) (m3 : n3 ≤ maxLen)
    (h : 1024 < role.size ∨ 1024 < n0 ∨ 1024 < n1 ∨ 1024 < n2 ∨ 1024 < n3) :
    Calls Yba.prog 3 #[.agg net, .string role, .slice a0 n0 c0, .slice a1 n1 c1, .slice a2 n2 c2, .slice a3 n3 c3] w fun e w' => e = .returned (.bool true) ∧ Below w.heap.size w w' := by
  unfold maxLen at hr m0 m1 m2 m3
  by_cases h0 : 1024 < role.size
  · go_enter Yba.func3, Yba.ntmps3
    go_wp2
    go_ret
    exact ⟨rfl, (Below.refl _ _).alloc (Nat.le_refl _) _⟩
  by_cases h1 : 1024 < n0
  · go_enter Yba.func3, Yba.ntmps3
    go_wp2
    go_ret
    exact ⟨rfl, (Below.refl _ _).alloc (Nat.le_refl _) _⟩
  by_cases h2 : 1024 < n1
  · go_enter Yba.func3, Yba.ntmps3
    go_wp2
    go_ret
    exact ⟨rfl, (Below.refl _ _).alloc (Nat.le_refl _) _⟩
  by_cases h3 : 1024 < n2
  · go_enter Yba.func3, Yba.ntmps3
    go_wp2
    go_ret
    exact ⟨rfl, (Below.refl _ _).alloc (Nat.le_refl _) _⟩
  have h4 : 1024 < n3 := by omega
  go_enter Yba.func3, Yba.ntmps3
  go_wp2
  go_ret
  exact ⟨rfl, (Below.refl _ _).alloc (Nat.le_refl _) _⟩

theorem walk (net : Array Value) (nz : Nat → Int) (role : ByteArray) (a0 a1 a2 a3 : Option Addr) (n0 n1 n2 n3 c0 c1 c2 c3 : Nat) (z0 z1 z2 z3 : Nat → Int) (w : World) (hnet : net.size = 32) (hnz : ∀ i, i < 32 → net[i]? = some (.int .u8 (nz i)))
    (hr : role.size ≤ maxLen) (m0 : n0 ≤ maxLen) (m1 : n1 ≤ maxLen) (m2 : n2 ≤ maxLen) (m3 : n3 ≤ maxLen) (s0 : Seen .u8 w a0 n0 z0) (s1 : Seen .u8 w a1 n1 z1) (s2 : Seen .u8 w a2 n2 z2) (s3 : Seen .u8 w a3 n3 z3) :
    Calls Yba.prog 3 #[.agg net, .string role, .slice a0 n0 c0, .slice a1 n1 c1, .slice a2 n2 c2, .slice a3 n3 c3] w fun e w' => e = .returned (.bool true) ∧ Below w.heap.size w w' := by
  by_cases h : role.size ≤ 1024 ∧ n0 ≤ 1024 ∧ n1 ≤ 1024 ∧ n2 ≤ 1024 ∧ n3 ≤ 1024
  · obtain ⟨k, k0, k1, k2, k3⟩ := h
    exact exact_any net role (pick4 a0 a1 a2 a3) (pick4 n0 n1 n2 n3) (pick4 c0 c1 c2 c3) (pick4 z0 z1 z2 z3) nz w hnet hnz k (le4 k0 k1 k2 k3) (seen4 s0 s1 s2 s3)
  · exact walk_long net role a0 a1 a2 a3 n0 n1 n2 n3 c0 c1 c2 c3 w hr m0 m1 m2 m3 (by omega)

set_option maxRecDepth 100000 in
theorem lifted (os : Os) (started : os.Started) (H : Type) (enc : TypeId × Value → H) :
    ReturnsInHanded {} Yba.checked os 3 .any (Rows.lawS0977AExactSpec.pre6 enc Yba.prog Yba.f3 Rows.lawS0977AExactRow.domain false) (Rows.lawS0977AExactSpec.post enc Yba.prog Yba.f3 false true false false) := by
  refine returnsInHanded_of_change (C := Yba.checked) own started (by kernel_rfl) Yba.func3
    (ChangeSpec.witness6 (enc := enc) (C := Yba.checked) false ⟨#[], #[.agg (Array.replicate 32 (.int .u8 0)), .string ⟨#[]⟩, .slice none 0 0, .slice none 0 0, .slice none 0 0, .slice none 0 0], []⟩ 8 (by kernel_rfl) (by kernel_rfl) (by kernel_rfl) (by kernel_rfl)) ?_
  intro W base args ds gs before hval0 hW hcnd _
  have hval : ∀ (j : Nat) t v, Yba.f3.params[j]? = some t → args[j]? = some v → Value.okWide Yba.prog W .any base t v := hval0
  have hW' := hW
  obtain ⟨p, q, hA0, hV, rfl, hfz, hnd⟩ := hW
  have hA : DataW.TrodAll enc Yba.prog W 0 (fun _ => true) true Yba.f3.params.toList args.toList ds p := hA0
  rw [Yba.params3] at hA hval
  obtain ⟨v0, vs0, d0, ds0, p0, q0, hargs, rfl, rfl, h0, r0⟩ := trodAll_cons hA
  obtain ⟨v1, vs1, d1, ds1, p1, q1, rfl, rfl, rfl, h1, r1⟩ := trodAll_cons r0
  obtain ⟨v2, vs2, d2, ds2, p2, q2, rfl, rfl, rfl, h2, r2⟩ := trodAll_cons r1
  obtain ⟨v3, vs3, d3, ds3, p3, q3, rfl, rfl, rfl, h3, r3⟩ := trodAll_cons r2
  obtain ⟨v4, vs4, d4, ds4, p4, q4, rfl, rfl, rfl, h4, r4⟩ := trodAll_cons r3
  obtain ⟨v5, vs5, d5, ds5, p5, q5, rfl, rfl, rfl, h5, r5⟩ := trodAll_cons r4
  obtain ⟨rfl, rfl, rfl⟩ := trodAll_nil r5
  obtain rfl : args = #[v0, v1, v2, v3, v4, v5] := by cases args; simp_all
  obtain ⟨rfl, rfl⟩ := trodVars_none hV
  have lt0 : ∀ x ∈ p0, x.block < W.heap.size := by obtain ⟨m, hm⟩ := h0; exact DataW.trod_lt m _ _ _ hm
  have lt2 : ∀ x ∈ p2, x.block < W.heap.size := by obtain ⟨m, hm⟩ := h2; exact DataW.trod_lt m _ _ _ hm
  have lt3 : ∀ x ∈ p3, x.block < W.heap.size := by obtain ⟨m, hm⟩ := h3; exact DataW.trod_lt m _ _ _ hm
  have lt4 : ∀ x ∈ p4, x.block < W.heap.size := by obtain ⟨m, hm⟩ := h4; exact DataW.trod_lt m _ _ _ hm
  have lt5 : ∀ x ∈ p5, x.block < W.heap.size := by obtain ⟨m, hm⟩ := h5; exact DataW.trod_lt m _ _ _ hm
  obtain ⟨net, nz, rfl, hnet, hnz⟩ := open_array_ints Yba.underlying22 Yba.underlying5 cells5 cells22 (hval 0 22 v0 rfl rfl) h0
  obtain ⟨role, rfl, rfl, rfl, hs⟩ := open_string Yba.underlying9 (hval 1 9 v1 rfl rfl) h1
  obtain ⟨a2, n2, c2, z2, rfl, m2, s2⟩ := open_seen Yba.underlying23 Yba.underlying5 cells5 (hval 2 23 v2 rfl rfl) h2
  obtain ⟨a3, n3, c3, z3, rfl, m3, s3⟩ := open_seen Yba.underlying23 Yba.underlying5 cells5 (hval 3 23 v3 rfl rfl) h3
  obtain ⟨a4, n4, c4, z4, rfl, m4, s4⟩ := open_seen Yba.underlying23 Yba.underlying5 cells5 (hval 4 23 v4 rfl rfl) h4
  obtain ⟨a5, n5, c5, z5, rfl, m5, s5⟩ := open_seen Yba.underlying23 Yba.underlying5 cells5 (hval 5 23 v5 rfl rfl) h5
  clear hA0 hval0
  refine (walk net nz role a2 a3 a4 a5 n2 n3 n4 n5 c2 c3 c4 c5 z2 z3 z4 z5 W hnet hnz hs m2 m3 m4 m5 s2 s3 s4 s5).mono fun e W' ⟨he, bel⟩ => ?_
  subst he
  exact ⟨_, rfl, _, _, _, [], _, [], hW', trodAll_mk1 (shut_bool Yba.underlying4 _),
    (trodAll_cons_mk (Below.trod laidOut (by kernel_rfl) (of_decide_eq_true (by kernel_rfl)) h0 bel lt0)
      (trodAll_cons_mk (shut_string Yba.underlying9 hs)
        (trodAll_cons_mk (Below.trod laidOut (by kernel_rfl) (of_decide_eq_true (by kernel_rfl)) h2 bel lt2)
          (trodAll_cons_mk (Below.trod laidOut (by kernel_rfl) (of_decide_eq_true (by kernel_rfl)) h3 bel lt3)
            (trodAll_cons_mk (Below.trod laidOut (by kernel_rfl) (of_decide_eq_true (by kernel_rfl)) h4 bel lt4)
              (trodAll_cons_mk (Below.trod laidOut (by kernel_rfl) (of_decide_eq_true (by kernel_rfl)) h5 bel lt5) trodAll_mk0)))))),
    rfl, bel.frame _, fun h => by cases h⟩

theorem over : Rows.lawS0977AExactRow.holds Yba.pinned (OpenSpec.ofChange Rows.lawS0977AExactSpec) :=
  OpenClaim.holds_of_wide 3 Yba.f3 rfl rfl rfl rfl rfl rfl rfl ⟨rfl, rfl, rfl, rfl, rfl⟩ rfl rfl rfl rfl rfl (by kernel_rfl) Yba.func3 (by kernel_rfl)
    (of_decide_eq_true (by kernel_rfl)) (by unfold Func.isWrapper; first | (rw [if_pos (by decide +kernel)]; kernel_rfl) | (rw [if_neg (by decide +kernel)]; exact ⟨rfl, rfl⟩))
    (fun os started H enc _ => lifted os started H enc)

/-- the statement -/
theorem proved : Rows.LawS0977AExactSaid := over
end Go.Proofs.Ybulktfc.lawS0977AExact
