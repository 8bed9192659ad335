/-
  THE PROOF OF 'Rows.LawS1564BLinesToldSaid' ('cli.LawS1564BLines'): fmt's texts told, the listed tables tied to the program's text.
-/
import Derived.Test.YbulkafjeFmtTold
namespace Go.Proofs.YbulkafjeFmt.lawLines
open Go.ChangeShapes Go.WideShapes Go.ChangeAt Go.RowKit Go.Kit
open Go.ChangeMaps (open_string shut_string)
open Go.Extern.Stop Go.Stop Go.Extern

/-- The whole walk at F.told. -/
theorem walk (F : Interp) (x : ByteArray) (n t : Int) (w : World) (hF : F.told.answers w.tape) (wx : x.size ≤ maxLen) (wn : (Lit.int .i64 n).wf = true) (wt : (Lit.int .i64 t).wf = true) (htab : Lib.TabBelow Ybaf.prog w.heap.size w tabName .u64 Lib.pow10Tab) :
    Calls Ybaf.prog 4 #[.string x, .int .i64 n, .int .i64 t] w fun e w' => e = .returned (.bool true) ∧ Below w.heap.size w w' := by
  by_cases hx : 1024 < x.size
  · unfold maxLen at wx
    go_enter Ybaf.func4, Ybaf.ntmps4
    go_wp2
    go_ret
    exact ⟨rfl, Below.refl _ _⟩
  · have hx' : x.size ≤ 1024 := by omega
    have hxl : x.data.toList.length = x.size := rfl
    have bn := bounds_i64 wn
    have bt := bounds_i64 wt
    have ln := FmtText.itoa_length_le wn
    have lt := FmtText.itoa_length_le wt
    exact lawLines_in F.told x n t w hF hx' bn.1 bn.2 bt.1 bt.2 ln lt htab
      (told_bytes F (textP x (by omega)) (by simp [lineP]; simp at hxl; omega)) (told_bytes F (textN n wn) (by simp [lineN]; omega)) (told_bytes F (textT t wt) (by simp [lineT]; omega))

set_option maxRecDepth 1000000 in
theorem witness_row (os : Os) {H : Type} (enc : TypeId × Value → H) :
    (OpenSpec.ofChange Rows.lawS1564BLinesSpec).preRow enc Ybaf.prog Ybaf.f4 Rows.lawS1564BLinesRow.domain false Rows.lawS1564BLinesRow.laid ((layIn (World.holding Ybaf.prog os ⟨#[], #[], []⟩)).forCall (fun _ _ => 0) ⟨#[], #[.string ⟨#[]⟩, .int .i64 0, .int .i64 0], []⟩).memory #[.string ⟨#[]⟩, .int .i64 0, .int .i64 0] := by
  have hw : (DataW.whole enc Ybaf.prog ((layIn (World.holding Ybaf.prog os ⟨#[], #[], []⟩)).forCall (fun _ _ => 0) ⟨#[], #[.string ⟨#[]⟩, .int .i64 0, .int .i64 0], []⟩).memory Ybaf.f4.params.toList (OpenSpec.ofChange Rows.lawS1564BLinesSpec).vars false (#[.string ⟨#[]⟩, .int .i64 0, .int .i64 0] : Array Value).toList 8).map (fun x => (x.1, x.2.1)) =
      some ([.lit (.string []), .lit (.int .i64 0), .lit (.int .i64 0)], []) := by kernel_rfl
  obtain ⟨⟨x1, x2, x3⟩, hx, hx1⟩ := Option.map_eq_some_iff.1 hw
  simp only [Prod.mk.injEq] at hx1
  obtain ⟨rfl, rfl⟩ := hx1
  exact OpenSpec.preRow_of_cond 8 hx (by kernel_rfl) (fun k hk => by cases hk) (by kernel_rfl) (laid_met os _)

set_option maxRecDepth 1000000 in
theorem lifted (os : Os) (started : os.Started) (H : Type) (enc : TypeId × Value → H) :
    ReturnsInTold none {} Ybaf.checked os 4 .any Input.okWide ((OpenSpec.ofChange Rows.lawS1564BLinesSpec).preRow enc Ybaf.prog Ybaf.f4 Rows.lawS1564BLinesRow.domain false Rows.lawS1564BLinesRow.laid) (fun F => ((OpenSpec.ofChange Rows.lawS1564BLinesSpec).at F).post enc Ybaf.prog Ybaf.f4 false true false false) (aloneAtReturn Ybaf.prog) nothingAlways := by
  refine returnsInTold_of_row (C := Ybaf.checked) (s := OpenSpec.ofChange Rows.lawS1564BLinesSpec) (by kernel_rfl) own started (by kernel_rfl) Ybaf.func4
    (OpenSpec.witness_stopped_atRef (enc := enc) (C := Ybaf.checked) false (layIn (World.holding Ybaf.prog os ⟨#[], #[], []⟩)) #[.string ⟨#[]⟩, .int .i64 0, .int .i64 0] rfl (by kernel_rfl) (by kernel_rfl) (by kernel_rfl) (witness_row os enc)) ?_
  intro F W base args ds gs before _ hF hval0 hW _ _ _ hL _
  have hval : ∀ (j : Nat) t v, Ybaf.f4.params[j]? = some t → args[j]? = some v → Value.okWide Ybaf.prog W .any base t v := hval0
  have hW' := hW
  obtain ⟨p, q, hA0, hV, rfl, hfz, hnd⟩ := hW
  have hA : DataW.TrodAll enc Ybaf.prog W 0 (fun _ => true) true Ybaf.f4.params.toList args.toList ds p := hA0
  rw [Ybaf.params4] at hA hval
  obtain ⟨v0, vs0, d0, ds0, p0, q0, hargs, rfl, rfl, h0, r0⟩ := trodAll_cons hA
  obtain ⟨v1, vs1, d1, ds1, p1, q1, rfl, rfl, rfl, h1, r1⟩ := trodAll_cons r0
  obtain ⟨v2, vs2, d2, ds2, p2, q2, rfl, rfl, rfl, h2, r2⟩ := trodAll_cons r1
  obtain ⟨rfl, rfl, rfl⟩ := trodAll_nil r2
  obtain rfl : args = #[v0, v1, v2] := by cases args; simp_all
  obtain ⟨rfl, rfl⟩ := trodVars_none hV
  obtain ⟨x, rfl, rfl, rfl, wx⟩ := open_string Ybaf.underlying9 (hval 0 9 v0 rfl rfl) h0
  obtain ⟨n, rfl, rfl, rfl, wn⟩ := open_int Ybaf.underlying3 (hval 1 3 v1 rfl rfl) h1
  obtain ⟨t, rfl, rfl, rfl, wt⟩ := open_int Ybaf.underlying3 (hval 2 3 v2 rfl rfl) h2
  clear hA0 hval0
  simp only [List.append_nil] at hW'
  refine (walk F x n t W hF wx wn wt (tab_of_laid hL)).mono fun e W' ⟨he, hg⟩ => ?_
  subst he
  exact ⟨_, rfl, _, _, _, [], [], [], hW', (trodAll_cons_mk (shut_bool Ybaf.underlying4 _) trodAll_mk0), (trodAll_cons_mk (shut_string Ybaf.underlying9 wx) (trodAll_cons_mk (shut_int Ybaf.underlying3 wn) (trodAll_cons_mk (shut_int Ybaf.underlying3 wt) trodAll_mk0))), rfl, hg.frame _, fun h => by cases h⟩

theorem laidOut : laidOutB Ybaf.pinned.checked.prog = true := by kernel_rfl
theorem stops : Ybaf.pinned.checked.prog.stops = ["fmt.Sprintf"] := by kernel_rfl
theorem stopKnobs : Ybaf.pinned.checked.prog.stopKnobs = [] := by kernel_rfl
theorem quiet (os : Os) : Stop.quiet Ybaf.pinned.checked.prog os := by
  intro k hk
  rw [stopKnobs] at hk
  cases hk

/-- THE STATEMENT -/
theorem proved : Rows.LawS1564BLinesToldSaid :=
  Claim7.holds_of_told_tied_any_at .later 4 Ybaf.f4 "fmt.Sprintf" [] [] _ _ _ _ _ (by kernel_rfl) rfl rfl rfl laidOut (by kernel_rfl) rfl ⟨rfl, rfl, rfl, rfl, rfl, rfl, rfl⟩ rfl rfl (by kernel_rfl) (by kernel_rfl) Ybaf.func4 (by kernel_rfl)
    (of_decide_eq_true (by kernel_rfl)) (by unfold Func.isWrapper; rw [if_neg (of_decide_eq_false (by kernel_rfl))]; exact ⟨rfl, rfl⟩) stops.symm rfl stopKnobs.symm (by kernel_rfl)
    (by kernel_rfl) (by kernel_rfl) (by kernel_rfl) (by kernel_rfl) (by kernel_rfl) (by kernel_rfl) (by kernel_rfl) (by kernel_rfl) (by kernel_rfl) rfl (by kernel_rfl) rfl rfl
    rfl rfl
    rfl (by kernel_rfl) (by kernel_rfl) (by kernel_rfl) (by decide) (by kernel_rfl) lawS1564BLines_row_tie
    (OpenClaim.moreEntering_of (by kernel_rfl) (by kernel_rfl) (by kernel_rfl) (by kernel_rfl) (by kernel_rfl) (by kernel_rfl) (by kernel_rfl) (by kernel_rfl) (by kernel_rfl) (by kernel_rfl))
    ⟨_, WideRow.started_initial, quiet _⟩
    (fun os started _ H enc _ => lifted os started H enc)
end Go.Proofs.YbulkafjeFmt.lawLines
