/-
  THE PROOF OF 'Rows.LawS1564APlanSaid' ('consensus.LawS1564APlan'): the frame is the guide's template at this function's number and types (proof-skeleton.mjs); the walks are mine (YbulkafjePlan*.lean).
-/
import Derived.Test.YbulkafjeRows
import Derived.WalkKit
import Derived.ProofKit
import Derived.OpenShut
import Derived.ShutString
import Derived.Test.YbulkafjePlanNone
import Derived.Test.YbulkafjePlanSome
namespace Go.Proofs.Ybulkafje.lawS1564APlan
open Go.ChangeShapes Go.WideShapes Go.ChangeAt Go.RowKit
open Go.ChangeMaps (open_string shut_string)
set_option linter.unusedVariables false      -- a walk need not use every 'w<i>' (that an integer argument fits its kind)

theorem own : ownKnob Yba.prog.godebug = none := by kernel_rfl

/-! ### STEP 1: THE WALK: the Go text returns true; of what was there before the call nothing has turned. -/
theorem walk (a0 : Int) (a1 : Int) (a2 : Int) (a3 : Int) (a4 : Bool) (a5 : Int) (w0 : (Lit.int .u8 a0).wf = true) (w1 : (Lit.int .u16 a1).wf = true) (w2 : (Lit.int .u16 a2).wf = true) (w3 : (Lit.int .u8 a3).wf = true) (w5 : (Lit.int .i64 a5).wf = true) (w : World) :
    Calls Yba.prog 3 #[.int .u8 a0, .int .u16 a1, .int .u16 a2, .int .u8 a3, .bool a4, .int .i64 a5] w fun e w' => e = .returned (.bool true) ∧ Below w.heap.size w w' := by
  have b0 := bounds_u8 w0
  have b1 := bounds_u16 w1
  have b2 := bounds_u16 w2
  have b3 := bounds_u8 w3
  have b5 := bounds_i64 w5
  have hk := Plan.keys_apart a5 b5.1 b5.2
  obtain ⟨N, hN⟩ : ∃ N : Nat, a0 % 12 + 1 = N := ⟨(a0 % 12 + 1).toNat, by omega⟩
  obtain ⟨M, hM⟩ : ∃ M : Nat, a3 % (N + 1) = M := ⟨(a3 % (N + 1)).toNat, by have := Int.emod_nonneg a3 (show (N : Int) + 1 ≠ 0 by omega); omega⟩
  by_cases hall : ∀ j, j < (Plan.fsOf a1 N).length + 1 → Plan.good N M (Plan.nz (Plan.bsOf a1 a2 N)) (Plan.no (Plan.bsOf a1 a2 N)) (Plan.fsOf a1 N).length j = false
  · exact Plan.law_none a0 a1 a2 a3 a4 a5 N M w b0.1 b0.2 b1.1 b1.2 b2.1 b2.2 b3.1 b3.2 hN hM w5 hk hall
  · obtain ⟨f0, ⟨h1, h2⟩, hmin⟩ := exists_least (p := fun j => j < (Plan.fsOf a1 N).length + 1 ∧ Plan.good N M (Plan.nz (Plan.bsOf a1 a2 N)) (Plan.no (Plan.bsOf a1 a2 N)) (Plan.fsOf a1 N).length j = true) (by
      apply Classical.byContradiction
      intro hno
      apply hall
      intro j hj
      cases hg : Plan.good N M (Plan.nz (Plan.bsOf a1 a2 N)) (Plan.no (Plan.bsOf a1 a2 N)) (Plan.fsOf a1 N).length j
      · rfl
      · exact absurd ⟨j, hj, hg⟩ hno)
    refine Plan.law_some a0 a1 a2 a3 a4 a5 N M f0 w b0.1 b0.2 b1.1 b1.2 b2.1 b2.2 b3.1 b3.2 hN hM w5 hk (by omega) h2 ?_
    intro j hj
    cases hg : Plan.good N M (Plan.nz (Plan.bsOf a1 a2 N)) (Plan.no (Plan.bsOf a1 a2 N)) (Plan.fsOf a1 N).length j
    · rfl
    · have := hmin j ⟨by omega, hg⟩
      omega

/-! ### THE ROW's STEP: WRITTEN OUT: LEAVE IT -/
set_option maxRecDepth 100000 in
theorem lifted (os : Os) (started : os.Started) (H : Type) (enc : TypeId × Value → H) :
    ReturnsInHanded {} Yba.checked os 3 .any (Rows.lawS1564APlanSpec.pre6 enc Yba.prog Yba.f3 Rows.lawS1564APlanRow.domain false) (Rows.lawS1564APlanSpec.post enc Yba.prog Yba.f3 false true false false) := by
  refine returnsInHanded_of_change (C := Yba.checked) own started (by kernel_rfl) Yba.func3
    (ChangeSpec.witness6 (enc := enc) (C := Yba.checked) false ⟨#[], #[.int .u8 0, .int .u16 0, .int .u16 0, .int .u8 0, .bool false, .int .i64 0], []⟩ 8 (by kernel_rfl) (by kernel_rfl) (by kernel_rfl) (by kernel_rfl)) ?_
  intro W base args ds gs before hval0 hW hcnd _
  have hval : ∀ (j : Nat) t v, Yba.f3.params[j]? = some t → args[j]? = some v → Value.okWide Yba.prog W .any base t v := hval0
  have hW' := hW
  obtain ⟨p, q, hA0, hV, rfl, hfz, hnd⟩ := hW
  have hA : DataW.TrodAll enc Yba.prog W 0 (fun _ => true) true Yba.f3.params.toList args.toList ds p := hA0
  rw [Yba.params3] at hA hval
  obtain ⟨v0, vs0, d0, ds0, p0, q0, hargs, rfl, rfl, h0, r0⟩ := trodAll_cons hA
  obtain ⟨v1, vs1, d1, ds1, p1, q1, rfl, rfl, rfl, h1, r1⟩ := trodAll_cons r0
  obtain ⟨v2, vs2, d2, ds2, p2, q2, rfl, rfl, rfl, h2, r2⟩ := trodAll_cons r1
  obtain ⟨v3, vs3, d3, ds3, p3, q3, rfl, rfl, rfl, h3, r3⟩ := trodAll_cons r2
  obtain ⟨v4, vs4, d4, ds4, p4, q4, rfl, rfl, rfl, h4, r4⟩ := trodAll_cons r3
  obtain ⟨v5, vs5, d5, ds5, p5, q5, rfl, rfl, rfl, h5, r5⟩ := trodAll_cons r4
  obtain ⟨rfl, rfl, rfl⟩ := trodAll_nil r5
  obtain rfl : args = #[v0, v1, v2, v3, v4, v5] := by cases args; simp_all
  obtain ⟨rfl, rfl⟩ := trodVars_none hV
  obtain ⟨a0, rfl, rfl, rfl, w0⟩ := open_int Yba.underlying5 (hval 0 5 v0 rfl rfl) h0
  obtain ⟨a1, rfl, rfl, rfl, w1⟩ := open_int Yba.underlying22 (hval 1 22 v1 rfl rfl) h1
  obtain ⟨a2, rfl, rfl, rfl, w2⟩ := open_int Yba.underlying22 (hval 2 22 v2 rfl rfl) h2
  obtain ⟨a3, rfl, rfl, rfl, w3⟩ := open_int Yba.underlying5 (hval 3 5 v3 rfl rfl) h3
  obtain ⟨a4, rfl, rfl, rfl⟩ := open_bool Yba.underlying4 (hval 4 4 v4 rfl rfl) h4
  obtain ⟨a5, rfl, rfl, rfl, w5⟩ := open_int Yba.underlying3 (hval 5 3 v5 rfl rfl) h5
  clear hA0 hval0
  simp only [List.append_nil] at hW'
  refine (walk a0 a1 a2 a3 a4 a5 w0 w1 w2 w3 w5 W).mono fun e W' ⟨he, hg⟩ => ?_
  subst he
  exact ⟨_, rfl, _, _, _, [], [], [], hW', (trodAll_cons_mk (shut_bool Yba.underlying4 _) trodAll_mk0), (trodAll_cons_mk (shut_int Yba.underlying5 w0) (trodAll_cons_mk (shut_int Yba.underlying22 w1) (trodAll_cons_mk (shut_int Yba.underlying22 w2) (trodAll_cons_mk (shut_int Yba.underlying5 w3) (trodAll_cons_mk (shut_bool Yba.underlying4 _) (trodAll_cons_mk (shut_int Yba.underlying3 w5) trodAll_mk0)))))), rfl, hg.frame _, fun h => by cases h⟩

theorem over : Rows.lawS1564APlanRow.holds Yba.pinned (OpenSpec.ofChange Rows.lawS1564APlanSpec) :=
  OpenClaim.holds_of_wide 3 Yba.f3 rfl rfl rfl rfl rfl rfl rfl ⟨rfl, rfl, rfl, rfl, rfl⟩ rfl rfl rfl rfl rfl (by kernel_rfl) Yba.func3 (by kernel_rfl)
    (of_decide_eq_true (by kernel_rfl)) (by unfold Func.isWrapper; first | (rw [if_pos (by decide +kernel)]; kernel_rfl) | (rw [if_neg (by decide +kernel)]; exact ⟨rfl, rfl⟩))
    (fun os started H enc _ => lifted os started H enc)

/-- ████ THE STATEMENT ████ -/
theorem proved : Rows.LawS1564APlanSaid :=
  over
end Go.Proofs.Ybulkafje.lawS1564APlan
