import Derived.Test.YbulkthgIdentityWalk
import Derived.Test.YbulkthgOpenArgs
namespace Go.Proofs.Ybulkthg.lawS0981CIdentity
open Go.ChangeShapes Go.WideShapes Go.ChangeAt Go.RowKit
set_option linter.unusedVariables false

theorem own : ownKnob Yba.prog.godebug = none := by kernel_rfl
theorem laidOut : laidOutB Yba.prog = true := by kernel_rfl
theorem cells9 : Yba.prog.cellsOf 9 = 1 := by kernel_rfl

set_option maxHeartbeats 400000 in
/-- the law's own first test: more than 256 names -/
theorem walk_long (ao : Option Addr) (n cap : Nat) (w : World) (hn : 256 < n) (hm : n ≤ maxLen) :
    Calls Yba.prog 5 #[.slice ao n cap] w fun e w' => e = .returned (.bool true) ∧ Below w.heap.size w w' := by
  unfold maxLen at hm
  go_enter Yba.func5, Yba.ntmps5
  go_wp2
  go_ret
  exact ⟨rfl, Below.refl _ _⟩

set_option maxRecDepth 100000 in
theorem lifted (os : Os) (started : os.Started) (H : Type) (enc : TypeId × Value → H) :
    ReturnsInHanded {} Yba.checked os 5 .any (Rows.lawS0981CIdentitySpec.pre6 enc Yba.prog Yba.f5 Rows.lawS0981CIdentityRow.domain false) (Rows.lawS0981CIdentitySpec.post enc Yba.prog Yba.f5 false true false false) := by
  refine returnsInHanded_of_change (C := Yba.checked) own started (by kernel_rfl) Yba.func5
    (ChangeSpec.witness6 (enc := enc) (C := Yba.checked) false ⟨#[], #[.slice none 0 0], []⟩ 8 (by kernel_rfl) (by kernel_rfl) (by kernel_rfl) (by kernel_rfl)) ?_
  intro W base args ds gs before hval0 hW hcnd _
  have hval : ∀ (j : Nat) t v, Yba.f5.params[j]? = some t → args[j]? = some v → Value.okWide Yba.prog W .any base t v := hval0
  have hW' := hW
  obtain ⟨p, q, hA0, hV, rfl, hfz, hnd⟩ := hW
  have hA : DataW.TrodAll enc Yba.prog W 0 (fun _ => true) true Yba.f5.params.toList args.toList ds p := hA0
  rw [Yba.params5] at hA hval
  obtain ⟨v0, vs0, d0, ds0, p0, q0, hargs, rfl, rfl, h0, r0⟩ := trodAll_cons hA
  obtain ⟨rfl, rfl, rfl⟩ := trodAll_nil r0
  obtain rfl : args = #[v0] := by cases args; simp_all
  obtain ⟨rfl, rfl⟩ := trodVars_none hV
  have lt0 : ∀ x ∈ p0, x.block < W.heap.size := by obtain ⟨m, hm⟩ := h0; exact DataW.trod_lt m _ _ _ hm
  obtain ⟨a, n, cap, ns, rfl, hm, hns, hs⟩ := open_seenS Yba.underlying30 Yba.underlying9 cells9 (hval 0 30 v0 rfl rfl) h0
  clear hA0 hval0
  have walk : Calls Yba.prog 5 #[.slice a n cap] W fun e w' => e = .returned (.bool true) ∧ Below W.heap.size W w' := by
    by_cases h : n ≤ 256
    · exact identity_any a n cap ns W h hns hs
    · exact walk_long a n cap W (by omega) hm
  refine walk.mono fun e W' ⟨he, bel⟩ => ?_
  subst he
  exact ⟨_, rfl, _, _, _, [], _, [], hW', trodAll_mk1 (shut_bool Yba.underlying4 _),
    (trodAll_cons_mk (Below.trod laidOut (by kernel_rfl) (of_decide_eq_true (by kernel_rfl)) h0 bel lt0) trodAll_mk0),
    rfl, bel.frame _, fun h => by cases h⟩

theorem over : Rows.lawS0981CIdentityRow.holds Yba.pinned (OpenSpec.ofChange Rows.lawS0981CIdentitySpec) :=
  OpenClaim.holds_of_wide 5 Yba.f5 rfl rfl rfl rfl rfl rfl rfl ⟨rfl, rfl, rfl, rfl, rfl⟩ rfl rfl rfl rfl rfl (by kernel_rfl) Yba.func5 (by kernel_rfl)
    (of_decide_eq_true (by kernel_rfl)) (by unfold Func.isWrapper; first | (rw [if_pos (by decide +kernel)]; kernel_rfl) | (rw [if_neg (by decide +kernel)]; exact ⟨rfl, rfl⟩))
    (fun os started H enc _ => lifted os started H enc)

/-- the statement -/
theorem proved : Rows.LawS0981CIdentitySaid := over
end Go.Proofs.Ybulkthg.lawS0981CIdentity
