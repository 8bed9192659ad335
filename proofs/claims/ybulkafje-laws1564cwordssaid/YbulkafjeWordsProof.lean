/-
  THE PROOF OF 'Rows.LawS1564CWordsSaid' ('deterministic.LawS1564CWords'): the frame is the guide's template at this function's number and types (proof-skeleton.mjs); the walks are mine.
-/
import Derived.Test.YbulkafjeRows
import Derived.WalkKit
import Derived.ProofKit
import Derived.OpenShut
import Derived.ShutString
import Derived.Test.YbulkafjeWordsPlain
namespace Go.Proofs.Ybulkafje.lawS1564CWords
open Go.ChangeShapes Go.WideShapes Go.ChangeAt Go.RowKit
open Go.ChangeMaps (open_string shut_string)
set_option linter.unusedVariables false      -- a walk need not use every 'w<i>' (that an integer argument fits its kind)

theorem hide {p : Prop} (h : p) : Hid p := h

theorem own : ownKnob Yba.prog.godebug = none := by kernel_rfl

/-! ### STEP 1: THE WALKS -/
set_option maxHeartbeats 400000 in
theorem setWords_any (n : Int) (w : World) (h0 : 0 ≤ n) (h1 : n ≤ 1048576) :
    Calls Yba.prog 8 #[.int .i64 n] w fun e w' => e = .returned (.tuple #[.int .i64 ((n + 64) / 64), .int .u64 (Words.mk (Words.rest n))]) ∧ w' = w := by
  by_cases hz : (n + 1) % 64 = 0
  · have hb : ((n + 1) % 64 != 0) = false := by simp [hz]
    have HR : Hid (Words.mk (Words.rest n) = 18446744073709551615) := hide (by unfold Words.rest; rw [if_pos hz, Words.mk_full])
    clear hz
    go_enter Yba.func8, Yba.ntmps8
    go_wp2
    go_ret2
    refine ⟨?_, rfl⟩
    rw [HR.out]
    have e : (n + 1 + 63) / 64 = (n + 64) / 64 := by omega
    simp [e]
  · have hb : ((n + 1) % 64 != 0) = true := by simp [hz]
    have HR : Hid (IntKind.u64.wrap (IntKind.u64.wrap ((2 : Int) ^ ((n + 1) % 64).toNat) - 1) = Words.mk (Words.rest n)) :=
      hide (by unfold Words.rest; rw [if_neg hz]; exact Words.mk_sub _ (by omega))
    clear hz
    go_enter Yba.func8, Yba.ntmps8
    go_wp2
    go_ret2
    refine ⟨?_, rfl⟩
    have e : (n + 1 + 63) / 64 = (n + 64) / 64 := by omega
    simp [HR.out, e]

set_option maxHeartbeats 400000 in
theorem walk_in (n : Int) (w : World) (h0 : 0 ≤ n) (h1 : n ≤ 1048576) :
    Calls Yba.prog 4 #[.int .i64 n] w fun e w' => e = .returned (.bool true) ∧ w' = w := by
  have hd1 : decide (n < 0) = false := by simp; omega
  have hd2 : decide (1048576 < n) = false := by simp; omega
  go_enter Yba.func4, Yba.ntmps4
  go_wp2
  go_loop [4] (fun c => ∃ k : Nat, (k : Int) ≤ (n + 64) / 64 ∧ c = .int .i64 k) (fun c => ((n + 64) / 64 - intOf c).toNat)
  case atStart => exact ⟨0, by omega, rfl⟩
  case round =>
    obtain ⟨k, hk, rfl⟩ := hrel
    by_cases hlt : (k : Int) * 64 < n + 1
    · go_wp2
      go_round
      case rel => exact ⟨k + 1, by omega, by go_num⟩
      case measure => simp [intOf]; omega
    · have hge : n + 1 ≤ (k : Int) * 64 := by omega
      have hr := Words.rest_eq n k hge hk
      have hr2 := Words.rest_le n
      obtain ⟨r, HR⟩ : ∃ r, Hid (Words.rest n = r) := ⟨_, hide rfl⟩
      rw [HR.out] at hr hr2
      go_wp2
      go_loop [6, 7] (fun x j => ∃ J : Nat, J ≤ 64 ∧ j = .int .i64 J ∧ x = .int .u64 (Words.mk (min J r))) (fun _ j => 64 - (intOf j).toNat)
      case atStart => exact ⟨0, by omega, rfl, by simp [Words.mk]⟩
      case round =>
        obtain ⟨J, hJ, rfl, rfl⟩ := hrel
        by_cases hJl : J < 64
        · by_cases hJr : J < r
          · have hin : ((k : Int) - 1) * 64 + J < n + 1 := by omega
            obtain ⟨X, HX⟩ : ∃ X, Hid (Words.mk (min J r) = X) := ⟨_, hide rfl⟩
            rw [HX.out]
            have HS : Hid (bits .or .u64 X (IntKind.u64.wrap ((2 : Int) ^ J)) = Words.mk (min (J + 1) r)) :=
              hide (by rw [← HX.out, Nat.min_eq_left (by omega), Nat.min_eq_left (by omega)]; exact Words.mk_or J hJl)
            go_wp2
            go_round
            case rel => exact ⟨J + 1, by omega, by go_num, by rw [← HS.out]⟩
            case measure => simp [intOf]; omega
          · have hin : n + 1 ≤ ((k : Int) - 1) * 64 + J := by omega
            obtain ⟨X, HX⟩ : ∃ X, Hid (Words.mk (min J r) = X) := ⟨_, hide rfl⟩
            rw [HX.out]
            have HS : Hid (X = Words.mk (min (J + 1) r)) :=
              hide (by rw [← HX.out, Nat.min_eq_right (by omega), Nat.min_eq_right (by omega)])
            go_wp2
            go_round
            case rel => exact ⟨J + 1, by omega, by go_num, by rw [← HS.out]⟩
            case measure => simp [intOf]; omega
        · obtain ⟨X, HX⟩ : ∃ X, Hid (Words.mk (min J r) = X) := ⟨_, hide rfl⟩
          rw [HX.out]
          have HE : Hid (Words.mk (Words.rest n) = X) := hide (by rw [← HX.out, HR.out, Nat.min_eq_right (by omega)])
          have hkk : ((n + 64) / 64 == (k : Int)) = true := by rw [beq_iff_eq]; omega
          have hXX : (X == X) = true := beq_self_eq_true X
          go_wp2_with (go_at_call 8; refine (setWords_any n _ h0 h1).mono ?_; rintro e w' ⟨rfl, rfl⟩; rw [HE.out])
          go_ret
          exact ⟨rfl, rfl⟩

theorem walk (a0 : Int) (w0 : (Lit.int .i64 a0).wf = true) (w : World) :
    Calls Yba.prog 4 #[.int .i64 a0] w fun e w' => e = .returned (.bool true) ∧ Grown w w' := by
  by_cases h0 : a0 < 0
  · have hd1 : decide (a0 < 0) = true := by simp; omega
    go_enter Yba.func4, Yba.ntmps4
    go_wp2
    go_ret
    exact ⟨rfl, Grown.refl _⟩
  · by_cases h1 : 1048576 < a0
    · have hd1 : decide (a0 < 0) = false := by simp; omega
      have hd2 : decide (1048576 < a0) = true := by simp; omega
      go_enter Yba.func4, Yba.ntmps4
      go_wp2
      go_ret
      exact ⟨rfl, Grown.refl _⟩
    · refine (walk_in a0 w (by omega) (by omega)).mono ?_
      rintro e w' ⟨rfl, rfl⟩
      exact ⟨rfl, Grown.refl _⟩

/-! ### THE ROW's STEP: WRITTEN OUT: LEAVE IT -/
set_option maxRecDepth 100000 in
theorem lifted (os : Os) (started : os.Started) (H : Type) (enc : TypeId × Value → H) :
    ReturnsInHanded {} Yba.checked os 4 .any (Rows.lawS1564CWordsSpec.pre6 enc Yba.prog Yba.f4 Rows.lawS1564CWordsRow.domain false) (Rows.lawS1564CWordsSpec.post enc Yba.prog Yba.f4 false true false false) := by
  refine returnsInHanded_of_change (C := Yba.checked) own started (by kernel_rfl) Yba.func4
    (ChangeSpec.witness6 (enc := enc) (C := Yba.checked) false ⟨#[], #[.int .i64 0], []⟩ 8 (by kernel_rfl) (by kernel_rfl) (by kernel_rfl) (by kernel_rfl)) ?_
  intro W base args ds gs before hval0 hW hcnd _
  have hval : ∀ (j : Nat) t v, Yba.f4.params[j]? = some t → args[j]? = some v → Value.okWide Yba.prog W .any base t v := hval0
  have hW' := hW
  obtain ⟨p, q, hA0, hV, rfl, hfz, hnd⟩ := hW
  have hA : DataW.TrodAll enc Yba.prog W 0 (fun _ => true) true Yba.f4.params.toList args.toList ds p := hA0
  rw [Yba.params4] at hA hval
  obtain ⟨v0, vs0, d0, ds0, p0, q0, hargs, rfl, rfl, h0, r0⟩ := trodAll_cons hA
  obtain ⟨rfl, rfl, rfl⟩ := trodAll_nil r0
  obtain rfl : args = #[v0] := by cases args; simp_all
  obtain ⟨rfl, rfl⟩ := trodVars_none hV
  obtain ⟨a0, rfl, rfl, rfl, w0⟩ := open_int Yba.underlying3 (hval 0 3 v0 rfl rfl) h0
  clear hA0 hval0
  simp only [List.append_nil] at hW'
  refine (walk a0 w0 W).mono fun e W' ⟨he, hg⟩ => ?_
  subst he
  exact ⟨_, rfl, post_of_same (pa := []) (pv := []) hW' (fun _ _ _ => (trodAll_cons_mk (shut_bool Yba.underlying4 _) trodAll_mk0)) (fun sp _ => (trodAll_cons_mk (shut_int Yba.underlying3 w0) trodAll_mk0)) (fun _ _ => rfl) rfl
    (hg.frame _) hg.2.1 (ok_one (by kernel_rfl) rfl (okWide_bool_mk Yba.underlying4 _))⟩

theorem over : Rows.lawS1564CWordsRow.holds Yba.pinned (OpenSpec.ofChange Rows.lawS1564CWordsSpec) :=
  OpenClaim.holds_of_wide 4 Yba.f4 rfl rfl rfl rfl rfl rfl rfl ⟨rfl, rfl, rfl, rfl, rfl⟩ rfl rfl rfl rfl rfl (by kernel_rfl) Yba.func4 (by kernel_rfl)
    (of_decide_eq_true (by kernel_rfl)) (by unfold Func.isWrapper; first | (rw [if_pos (by decide +kernel)]; kernel_rfl) | (rw [if_neg (by decide +kernel)]; exact ⟨rfl, rfl⟩))
    (fun os started H enc _ => lifted os started H enc)

/-- ████ THE STATEMENT ████ -/
theorem proved : Rows.LawS1564CWordsSaid :=
  over
end Go.Proofs.Ybulkafje.lawS1564CWords
