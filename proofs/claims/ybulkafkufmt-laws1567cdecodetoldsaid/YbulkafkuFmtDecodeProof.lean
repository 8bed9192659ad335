/-
  THE PROOF OF 'Rows.LawS1567CDecodeToldSaid' ('pagewright.LawS1567CDecode'): the listed sentinel tied to the program's text; fmt's text is asked for, and nothing hangs on it.
-/
import Derived.Test.YbulkafkuFmtLaid
import Derived.Test.YbulkafkuFmtDecode
namespace Go.Proofs.YbulkafkuFmt.lawDecode
open Go.ChangeShapes Go.WideShapes Go.ChangeAt Go.RowKit Go.Kit
open Go.ChangeMaps (open_string shut_string)
open Go.Extern.Stop Go.Stop Go.Extern

theorem cells5 : Ybaf.prog.cellsOf 5 = 1 := by kernel_rfl
theorem star : String.ofList ['*'] ++ "errors.errorString" = errType := by decide
/-- The one type of that name. -/
theorem row99 (u : TypeId) (h : Ybaf.prog.typeName? 3 u = some errType) : u = 99 := by
  have h1 : ((List.range Ybaf.prog.types.size).all fun u => Ybaf.prog.typeName? 3 u != some (String.ofList ['*'] ++ "errors.errorString") || u == 99) = true := by rw [star]; kernel_rfl
  have h2 : Ybaf.prog.typeName? 3 u = some (String.ofList ['*'] ++ "errors.errorString") := by rw [star]; exact h
  exact typeName_ptr_named (nm := "errors.errorString") h1 (by kernel_rfl) (by decide) u h2

/-- What the key's bytes give: their text, in every world in which nothing that was there has turned. -/
theorem key_text {W : World} {a : Addr} {l c : Nat} {zs : List Int} (hl : l ≤ zs.length) (hcell : ∀ i, i < zs.length → W.cell? (a.add i) = some (.int .u8 (zs.getD i 0))) (hw : ∀ z ∈ zs, (Lit.int .u8 z).wf = true) :
    ∃ s : ByteArray, ∀ w' : World, Below W.heap.size W w' → (convert 56 9 (.slice (some a) l c)).run Ybaf.prog w' = .ok (.string s) w' := by
  refine ⟨⟨((zs.take l).map Lib.byteOf).toArray⟩, fun w' hb => ?_⟩
  have hln : ((zs.take l).map Lib.byteOf).length = l := by rw [List.length_map, List.length_take]; omega
  have := run_convert_bytes_back (P := Ybaf.prog) w' 56 9 5 a c ((zs.take l).map Lib.byteOf) Ybaf.underlying56 Ybaf.underlying5 Ybaf.underlying9 (fun j hj => by
    have hj2 : j < zs.length := by omega
    have hc := hcell j hj2
    rw [hb.cell (World.block_lt_of_cell? _ _ hc), hc]
    have hz := Lib.byte_of_wf (hw zs[j] (List.getElem_mem hj2))
    simp [hj2, Lib.byteOf_toNat hz])
  rw [hln] at this
  exact this

set_option maxRecDepth 1000000 in
theorem witness_row (os : Os) {H : Type} (enc : TypeId × Value → H) :
    (OpenSpec.ofChange Rows.lawS1567CDecodeSpec).preRow enc Ybaf.prog Ybaf.f4 Rows.lawS1567CDecodeRow.domain false Rows.lawS1567CDecodeRow.laid ((layIn (World.holding Ybaf.prog os ⟨#[.cells #[.string errS] 101], #[], []⟩) ((World.holding Ybaf.prog os ⟨#[], #[], []⟩).heap.size)).forCall (fun _ _ => 0) ⟨#[], #[.bool false, .int .u8 0, .slice none 0 0], []⟩).memory #[.bool false, .int .u8 0, .slice none 0 0] := by
  exact OpenSpec.preRow_of_B rfl 8 (by kernel_rfl) (by kernel_rfl) (laid_met os _)

set_option maxRecDepth 1000000 in
theorem lifted (os : Os) (started : os.Started) (H : Type) (enc : TypeId × Value → H) :
    ReturnsInTold none {} Ybaf.checked os 4 .any Input.okWide ((OpenSpec.ofChange Rows.lawS1567CDecodeSpec).preRow enc Ybaf.prog Ybaf.f4 Rows.lawS1567CDecodeRow.domain false Rows.lawS1567CDecodeRow.laid) (fun F => ((OpenSpec.ofChange Rows.lawS1567CDecodeSpec).at F).post enc Ybaf.prog Ybaf.f4 false true false false) (aloneAtReturn Ybaf.prog) nothingAlways := by
  refine returnsInTold_of_row (C := Ybaf.checked) (s := OpenSpec.ofChange Rows.lawS1567CDecodeSpec) (by kernel_rfl) own started (by kernel_rfl) Ybaf.func4
    (OpenSpec.witness_stopped_atRef (enc := enc) (C := Ybaf.checked) false (layIn (World.holding Ybaf.prog os ⟨#[.cells #[.string errS] 101], #[], []⟩) ((World.holding Ybaf.prog os ⟨#[], #[], []⟩).heap.size)) #[.bool false, .int .u8 0, .slice none 0 0] rfl (by kernel_rfl) (by kernel_rfl) (by kernel_rfl) (witness_row os enc)) ?_
  intro F W base args ds gs before _ hF hval0 hW _ _ _ hL _
  have hval : ∀ (j : Nat) t v, Ybaf.f4.params[j]? = some t → args[j]? = some v → Value.okWide Ybaf.prog W .any base t v := hval0
  have hW' := hW
  obtain ⟨p, q, hA0, hV0, rfl, hfz, hnd⟩ := hW
  have hA : DataW.TrodAll enc Ybaf.prog W 0 (fun _ => true) true Ybaf.f4.params.toList args.toList ds p := hA0
  have hV : DataW.TrodVars enc Ybaf.prog W (fun _ => true) Rows.lawS1567CDecodeSpec.vars gs q := hV0
  rw [Ybaf.params4] at hA hval
  obtain ⟨v0, vs0, d0, ds0, p0, q0, hargs, rfl, rfl, h0, r0⟩ := trodAll_cons hA
  obtain ⟨v1, vs1, d1, ds1, p1, q1, rfl, rfl, rfl, h1, r1⟩ := trodAll_cons r0
  obtain ⟨v2, vs2, d2, ds2, p2, q2, rfl, rfl, rfl, h2, r2⟩ := trodAll_cons r1
  obtain ⟨rfl, rfl, rfl⟩ := trodAll_nil r2
  obtain rfl : args = #[v0, v1, v2] := by cases args; simp_all
  obtain ⟨isText, rfl, rfl, rfl⟩ := open_bool Ybaf.underlying4 (hval 0 4 v0 rfl rfl) h0
  obtain ⟨x, rfl, rfl, rfl, wx⟩ := open_int Ybaf.underlying5 (hval 1 5 v1 rfl rfl) h1
  obtain ⟨ao, l, c, rfl⟩ := okWide_slice Ybaf.underlying56 (hval 2 56 v2 rfl rfl)
  have h2k := h2
  obtain ⟨fuel, hf⟩ := h2
  obtain ⟨g1, rfl⟩ : ∃ g1, gs = [g1] := by
    cases gs with
    | nil => exact hV.elim
    | cons g1 r =>
      obtain ⟨_, _, _, _, _, _, _, _, _, _, hr, _⟩ := hV
      cases r with
      | nil => exact ⟨g1, rfl⟩
      | cons _ _ => exact hr.elim
  obtain ⟨a1, s1, hv1, hc1, _, _⟩ := laid_sentinel hL gErr gErrType Ybaf.underlying40 row99 Ybaf.underlying99 Ybaf.underlying101 rfl rfl Ybaf.underlying9 cells101 cells9
  have hg1 : W.cell? ⟨1, 0, none⟩ = some (.iface 99 (.pointer (some a1))) := by simpa using World.var?_cell gErr hv1 0
  clear hA0 hV0 hval0
  have hlt : ∀ x ∈ p2, x.block < W.heap.size := fun x hx => hW'.lt x (by simp [hx])
  have bx := bounds_u8 wx
  have hwalk : Calls Ybaf.prog 4 #[.bool isText, .int .u8 x, .slice ao l c] W fun e w' => e = .returned (.bool true) ∧ Below W.heap.size W w' := by
    by_cases hbig : 1024 < l
    · exact law_big isText x ao l c W hbig
    rcases open_ints Ybaf.underlying56 Ybaf.underlying5 cells5 hf with ⟨hcs, _⟩ | ⟨a, len', cap', zs, hcs, _, hl, _, hz, _, hcell, hwf⟩
    · simp [Value.cells] at hcs
      obtain ⟨rfl, rfl, rfl⟩ := hcs
      cases isText
      · exact law_bad F.told x none 0 0 a1 s1 W hF bx.1 (by omega) (by omega) (by omega) hg1 hc1
      · exact law_text x none 0 0 ByteArray.empty W bx.1 (by omega) (by omega) (fun w' _ => run_convert_bytes_nil w' 56 5 Ybaf.underlying56 Ybaf.underlying5 0 0 9 Ybaf.underlying9)
    · simp [Value.cells] at hcs
      obtain ⟨rfl, rfl, rfl⟩ := hcs
      simp only [if_true] at hz
      cases isText
      · by_cases h8 : l = 8
        · subst h8
          refine law_good x c a (zs.take 8) W bx.1 (by omega) (by rw [List.length_take]; omega) (fun i hi => ?_) (fun z hzz => hwf z (List.mem_of_mem_take hzz))
          have hi2 : i < 8 := by rw [List.length_take] at hi; omega
          rw [hcell i (by omega)]
          simp [List.getD, hi2]
        · exact law_bad F.told x (some a) l c a1 s1 W hF bx.1 (by omega) (by omega) h8 hg1 hc1
      · obtain ⟨s, hs⟩ := key_text (c := c) (show l ≤ zs.length by omega) hcell hwf
        exact law_text x (some a) l c s W bx.1 (by omega) (by omega) hs
  refine hwalk.mono fun e W' ⟨he, hg⟩ => ?_
  subst he
  exact ⟨_, rfl, _, _, _, [], _, q, hW', (trodAll_cons_mk (shut_bool Ybaf.underlying4 _) trodAll_mk0), trodAll_cons_mk (shut_bool Ybaf.underlying4 _) (trodAll_cons_mk (shut_int Ybaf.underlying5 wx) (trodAll_mk1 (Below.trod laidOut (by kernel_rfl) (of_decide_eq_true (by kernel_rfl)) h2k hg hlt))), hg.trodVars laidOut (by kernel_rfl) hV, hg.frame _, fun h => by cases h⟩

/-- THE STATEMENT -/
theorem proved : Rows.LawS1567CDecodeToldSaid :=
  Claim7.holds_of_told_tied_any_at .later 4 Ybaf.f4 (Rows.lawS1567CDecodeRow.stops.headD "") Rows.lawS1567CDecodeRow.stops.tail [] _ _ _ _ _ (by kernel_rfl) rfl rfl rfl laidOut (by kernel_rfl) rfl ⟨rfl, rfl, rfl, rfl, rfl, rfl, rfl⟩ rfl rfl (by kernel_rfl) (by kernel_rfl) Ybaf.func4 (by kernel_rfl)
    (of_decide_eq_true (by kernel_rfl)) (by unfold Func.isWrapper; rw [if_neg (of_decide_eq_false (by kernel_rfl))]; exact ⟨rfl, rfl⟩) stops.symm rfl stopKnobs.symm (by kernel_rfl)
    (by kernel_rfl) (by kernel_rfl) (by kernel_rfl) (by kernel_rfl) (by kernel_rfl) (by kernel_rfl) (by kernel_rfl) (by kernel_rfl) (by kernel_rfl) rfl (by kernel_rfl) rfl rfl
    rfl rfl
    rfl (by kernel_rfl) (by kernel_rfl) (by kernel_rfl) (by decide) (by kernel_rfl) lawS1567CDecode_row_tie
    (OpenClaim.moreEntering_of (by kernel_rfl) (by kernel_rfl) (by kernel_rfl) (by kernel_rfl) (by kernel_rfl) (by kernel_rfl) (by kernel_rfl) (by kernel_rfl) (by kernel_rfl) (by kernel_rfl))
    ⟨_, WideRow.started_initial, quiet _⟩
    (fun os started _ H enc _ => lifted os started H enc)
end Go.Proofs.YbulkafkuFmt.lawDecode
