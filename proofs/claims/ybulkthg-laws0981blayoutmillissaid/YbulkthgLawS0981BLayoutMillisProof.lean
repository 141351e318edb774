import Derived.Test.YbulkthgLayoutWalk
import Derived.Test.YbulkthgOpenBytes
namespace Go.Proofs.Ybulkthg.lawS0981BLayoutMillis
open Go.ChangeShapes Go.WideShapes Go.ChangeAt Go.RowKit
set_option linter.unusedVariables false

theorem own : ownKnob Yba.prog.godebug = none := by kernel_rfl
theorem laidOut : laidOutB Yba.prog = true := by kernel_rfl
theorem cells23 : Yba.prog.cellsOf 23 = 8 := by kernel_rfl
theorem cells5 : Yba.prog.cellsOf 5 = 1 := by kernel_rfl

set_option maxRecDepth 100000 in
theorem lifted (os : Os) (started : os.Started) (H : Type) (enc : TypeId × Value → H) :
    ReturnsInHanded {} Yba.checked os 3 .any (Rows.lawS0981BLayoutMillisSpec.pre6 enc Yba.prog Yba.f3 Rows.lawS0981BLayoutMillisRow.domain false) (Rows.lawS0981BLayoutMillisSpec.post enc Yba.prog Yba.f3 false true false false) := by
  refine returnsInHanded_of_change (C := Yba.checked) own started (by kernel_rfl) Yba.func3
    (ChangeSpec.witness6 (enc := enc) (C := Yba.checked) false ⟨#[], #[.slice none 0 0, .agg (Array.replicate 8 (.int .u8 0)), .int .i32 0, .int .u32 0, .int .u8 0, .int .i32 0, .int .u32 0], []⟩ 8 (by kernel_rfl) (by kernel_rfl) (by kernel_rfl) (by kernel_rfl)) ?_
  intro W base args ds gs before hval0 hW hcnd _
  have hval : ∀ (j : Nat) t v, Yba.f3.params[j]? = some t → args[j]? = some v → Value.okWide Yba.prog W .any base t v := hval0
  have hW' := hW
  obtain ⟨p, q, hA0, hV, rfl, hfz, hnd⟩ := hW
  have hA : DataW.TrodAll enc Yba.prog W 0 (fun _ => true) true Yba.f3.params.toList args.toList ds p := hA0
  rw [Yba.params3] at hA hval
  obtain ⟨v0, vs0, d0, ds0, p0, q0, hargs, rfl, rfl, h0, r0⟩ := trodAll_cons hA
  obtain ⟨v1, vs1, d1, ds1, p1, q1, rfl, rfl, rfl, h1, r1⟩ := trodAll_cons r0
  obtain ⟨v2, vs2, d2, ds2, p2, q2, rfl, rfl, rfl, h2, r2⟩ := trodAll_cons r1
  obtain ⟨v3, vs3, d3, ds3, p3, q3, rfl, rfl, rfl, h3, r3⟩ := trodAll_cons r2
  obtain ⟨v4, vs4, d4, ds4, p4, q4, rfl, rfl, rfl, h4, r4⟩ := trodAll_cons r3
  obtain ⟨v5, vs5, d5, ds5, p5, q5, rfl, rfl, rfl, h5, r5⟩ := trodAll_cons r4
  obtain ⟨v6, vs6, d6, ds6, p6, q6, rfl, rfl, rfl, h6, r6⟩ := trodAll_cons r5
  obtain ⟨rfl, rfl, rfl⟩ := trodAll_nil r6
  obtain rfl : args = #[v0, v1, v2, v3, v4, v5, v6] := by cases args; simp_all
  obtain ⟨rfl, rfl⟩ := trodVars_none hV
  have lt0 : ∀ x ∈ p0, x.block < W.heap.size := by obtain ⟨m, hm⟩ := h0; exact DataW.trod_lt m _ _ _ hm
  have lt1 : ∀ x ∈ p1, x.block < W.heap.size := by obtain ⟨m, hm⟩ := h1; exact DataW.trod_lt m _ _ _ hm
  obtain ⟨a, n, c, y, rfl, hm, hs⟩ := open_seen Yba.underlying22 Yba.underlying5 cells5 (hval 0 22 v0 rfl rfl) h0
  obtain ⟨net, nz, rfl, hnet, hnz⟩ := open_array_ints Yba.underlying23 Yba.underlying5 cells5 cells23 (hval 1 23 v1 rfl rfl) h1
  obtain rfl := array8 hnet hnz
  obtain ⟨x2, rfl, rfl, rfl, w2⟩ := open_int Yba.underlying21 (hval 2 21 v2 rfl rfl) h2
  have b2 := bounds_i32 w2
  obtain ⟨x3, rfl, rfl, rfl, w3⟩ := open_int Yba.underlying24 (hval 3 24 v3 rfl rfl) h3
  have b3 := bounds_u32 w3
  obtain ⟨x4, rfl, rfl, rfl, w4⟩ := open_int Yba.underlying5 (hval 4 5 v4 rfl rfl) h4
  have b4 := bounds_u8 w4
  obtain ⟨x5, rfl, rfl, rfl, w5⟩ := open_int Yba.underlying21 (hval 5 21 v5 rfl rfl) h5
  have b5 := bounds_i32 w5
  obtain ⟨x6, rfl, rfl, rfl, w6⟩ := open_int Yba.underlying24 (hval 6 24 v6 rfl rfl) h6
  have b6 := bounds_u32 w6
  clear hA0 hval0
  refine (millisLaw_any a n c y nz x2 x3 x4 x5 x6 W hm (by omega) (by omega) (by omega) (by omega) (by omega) (by omega) (by omega) (by omega) hs).mono fun e W' ⟨he, bel⟩ => ?_
  subst he
  exact ⟨_, rfl, _, _, _, [], _, [], hW', trodAll_mk1 (shut_bool Yba.underlying4 _),
    (trodAll_cons_mk (Below.trod laidOut (by kernel_rfl) (of_decide_eq_true (by kernel_rfl)) h0 bel lt0) (trodAll_cons_mk (Below.trod laidOut (by kernel_rfl) (of_decide_eq_true (by kernel_rfl)) h1 bel lt1) (trodAll_cons_mk (shut_int Yba.underlying21 w2) (trodAll_cons_mk (shut_int Yba.underlying24 w3) (trodAll_cons_mk (shut_int Yba.underlying5 w4) (trodAll_cons_mk (shut_int Yba.underlying21 w5) (trodAll_cons_mk (shut_int Yba.underlying24 w6) trodAll_mk0))))))),
    rfl, bel.frame _, fun h => by cases h⟩

theorem over : Rows.lawS0981BLayoutMillisRow.holds Yba.pinned (OpenSpec.ofChange Rows.lawS0981BLayoutMillisSpec) :=
  OpenClaim.holds_of_wide 3 Yba.f3 rfl rfl rfl rfl rfl rfl rfl ⟨rfl, rfl, rfl, rfl, rfl⟩ rfl rfl rfl rfl rfl (by kernel_rfl) Yba.func3 (by kernel_rfl)
    (of_decide_eq_true (by kernel_rfl)) (by unfold Func.isWrapper; first | (rw [if_pos (by decide +kernel)]; kernel_rfl) | (rw [if_neg (by decide +kernel)]; exact ⟨rfl, rfl⟩))
    (fun os started H enc _ => lifted os started H enc)

/-- the statement -/
theorem proved : Rows.LawS0981BLayoutMillisSaid := over
end Go.Proofs.Ybulkthg.lawS0981BLayoutMillis
