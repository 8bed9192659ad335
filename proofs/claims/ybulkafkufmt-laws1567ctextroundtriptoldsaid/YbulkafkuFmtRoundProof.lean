/-
  THE PROOF OF 'Rows.LawS1567CTextRoundTripToldSaid' ('pagewright.LawS1567CTextRoundTrip'): the listed sentinel tied to the program's text; no text of fmt is met on the road.
-/
import Derived.Test.YbulkafkuFmtLaid
namespace Go.Proofs.YbulkafkuFmt.lawRound
open Go.ChangeShapes Go.WideShapes Go.ChangeAt Go.RowKit Go.Kit
open Go.ChangeMaps (open_string shut_string)
open Go.Extern.Stop Go.Stop Go.Extern

/-- The whole walk. -/
theorem walk (a : Int) (s : ByteArray) (w : World) (wa : (Lit.int .u8 a).wf = true) (ws : s.size ≤ maxLen) :
    Calls Ybaf.prog 5 #[.int .u8 a, .string s] w fun e w' => e = .returned (.bool true) ∧ Below w.heap.size w w' := by
  have ba := bounds_u8 wa
  by_cases hs : 1024 < s.size
  · exact round_big a s w hs ws
  · exact round_in a s w ba.1 (by omega) (by omega)

set_option maxRecDepth 1000000 in
theorem witness_row (os : Os) {H : Type} (enc : TypeId × Value → H) :
    (OpenSpec.ofChange Rows.lawS1567CTextRoundTripSpec).preRow enc Ybaf.prog Ybaf.f5 Rows.lawS1567CTextRoundTripRow.domain false Rows.lawS1567CTextRoundTripRow.laid ((layIn (World.holding Ybaf.prog os ⟨#[.cells #[.string errS] 101], #[], []⟩) ((World.holding Ybaf.prog os ⟨#[], #[], []⟩).heap.size)).forCall (fun _ _ => 0) ⟨#[], #[.int .u8 0, .string ⟨#[]⟩], []⟩).memory #[.int .u8 0, .string ⟨#[]⟩] := by
  exact OpenSpec.preRow_of_B rfl 8 (by kernel_rfl) (by kernel_rfl) (laid_met os _)

set_option maxRecDepth 1000000 in
theorem lifted (os : Os) (started : os.Started) (H : Type) (enc : TypeId × Value → H) :
    ReturnsInTold none {} Ybaf.checked os 5 .any Input.okWide ((OpenSpec.ofChange Rows.lawS1567CTextRoundTripSpec).preRow enc Ybaf.prog Ybaf.f5 Rows.lawS1567CTextRoundTripRow.domain false Rows.lawS1567CTextRoundTripRow.laid) (fun F => ((OpenSpec.ofChange Rows.lawS1567CTextRoundTripSpec).at F).post enc Ybaf.prog Ybaf.f5 false true false false) (aloneAtReturn Ybaf.prog) nothingAlways := by
  refine returnsInTold_of_row (C := Ybaf.checked) (s := OpenSpec.ofChange Rows.lawS1567CTextRoundTripSpec) (by kernel_rfl) own started (by kernel_rfl) Ybaf.func5
    (OpenSpec.witness_stopped_atRef (enc := enc) (C := Ybaf.checked) false (layIn (World.holding Ybaf.prog os ⟨#[.cells #[.string errS] 101], #[], []⟩) ((World.holding Ybaf.prog os ⟨#[], #[], []⟩).heap.size)) #[.int .u8 0, .string ⟨#[]⟩] rfl (by kernel_rfl) (by kernel_rfl) (by kernel_rfl) (witness_row os enc)) ?_
  intro F W base args ds gs before _ hF hval0 hW _ _ _ hL _
  have hval : ∀ (j : Nat) t v, Ybaf.f5.params[j]? = some t → args[j]? = some v → Value.okWide Ybaf.prog W .any base t v := hval0
  have hW' := hW
  obtain ⟨p, q, hA0, hV0, rfl, hfz, hnd⟩ := hW
  have hA : DataW.TrodAll enc Ybaf.prog W 0 (fun _ => true) true Ybaf.f5.params.toList args.toList ds p := hA0
  have hV : DataW.TrodVars enc Ybaf.prog W (fun _ => true) Rows.lawS1567CTextRoundTripSpec.vars gs q := hV0
  rw [Ybaf.params5] at hA hval
  obtain ⟨v0, v1, d0, d1, p0, p1, rfl, rfl, rfl, h0, h1⟩ := trodAll_two hA
  obtain ⟨a, rfl, rfl, rfl, wa⟩ := open_int Ybaf.underlying5 (hval 0 5 v0 rfl rfl) h0
  obtain ⟨s, rfl, rfl, rfl, ws⟩ := open_string Ybaf.underlying9 (hval 1 9 v1 rfl rfl) h1
  obtain ⟨g1, rfl⟩ : ∃ g1, gs = [g1] := by
    cases gs with
    | nil => exact hV.elim
    | cons g1 r =>
      obtain ⟨_, _, _, _, _, _, _, _, _, _, hr, _⟩ := hV
      cases r with
      | nil => exact ⟨g1, rfl⟩
      | cons _ _ => exact hr.elim
  clear hA0 hV0 hval0
  refine (walk a s W wa ws).mono fun e W' ⟨he, hg⟩ => ?_
  subst he
  exact ⟨_, rfl, _, _, _, [], [], q, hW', (trodAll_cons_mk (shut_bool Ybaf.underlying4 _) trodAll_mk0), trodAll_mk2 (shut_int Ybaf.underlying5 wa) (shut_string Ybaf.underlying9 ws), hg.trodVars laidOut (by kernel_rfl) hV, hg.frame _, fun h => by cases h⟩

/-- THE STATEMENT -/
theorem proved : Rows.LawS1567CTextRoundTripToldSaid :=
  Claim7.holds_of_told_tied_any_at .later 5 Ybaf.f5 (Rows.lawS1567CDecodeRow.stops.headD "") Rows.lawS1567CDecodeRow.stops.tail [] _ _ _ _ _ (by kernel_rfl) rfl rfl rfl laidOut (by kernel_rfl) rfl ⟨rfl, rfl, rfl, rfl, rfl, rfl, rfl⟩ rfl rfl (by kernel_rfl) (by kernel_rfl) Ybaf.func5 (by kernel_rfl)
    (of_decide_eq_true (by kernel_rfl)) (by unfold Func.isWrapper; rw [if_neg (of_decide_eq_false (by kernel_rfl))]; exact ⟨rfl, rfl⟩) stops.symm rfl stopKnobs.symm (by kernel_rfl)
    (by kernel_rfl) (by kernel_rfl) (by kernel_rfl) (by kernel_rfl) (by kernel_rfl) (by kernel_rfl) (by kernel_rfl) (by kernel_rfl) (by kernel_rfl) rfl (by kernel_rfl) rfl rfl
    rfl rfl
    rfl (by kernel_rfl) (by kernel_rfl) (by kernel_rfl) (by decide) (by kernel_rfl) lawS1567CTextRoundTrip_row_tie
    (OpenClaim.moreEntering_of (by kernel_rfl) (by kernel_rfl) (by kernel_rfl) (by kernel_rfl) (by kernel_rfl) (by kernel_rfl) (by kernel_rfl) (by kernel_rfl) (by kernel_rfl) (by kernel_rfl))
    ⟨_, WideRow.started_initial, quiet _⟩
    (fun os started _ H enc _ => lifted os started H enc)
end Go.Proofs.YbulkafkuFmt.lawRound
