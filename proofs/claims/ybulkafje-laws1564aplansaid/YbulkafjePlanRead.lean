import Derived.Test.YbulkafjeRows
import Derived.WalkKit
import Derived.WalkSpells
import Derived.WalkLawsBesides
import Derived.Deep.QuietTactic
import Derived.BigQuiet
namespace Go.Proofs.Ybulkafje
open Go.RowKit
namespace Plan
def lo (s : Bool) (M : Int) : Int := if s then M / 2 + 1 else (M + 1) / 2

set_option maxHeartbeats 400000 in
theorem majority_zero (ba : Nat) (M : Int) (w : World) (hM : w.cell? ⟨ba, 2, none⟩ = some (.int .i64 M)) (h0 : 0 ≤ M) (h1 : M ≤ 12) :
    Calls Yba.prog 11 #[.pointer (some ⟨ba, 0, none⟩), .int .u8 0] w fun e w' => e = .returned (.int .i64 (lo false M)) ∧ w' = w := by
  go_enter Yba.func11, Yba.ntmps11
  go_wp2
  go_ret
  exact ⟨rfl, rfl⟩
set_option maxHeartbeats 400000 in
theorem majority_one (ba : Nat) (M : Int) (w : World) (hM : w.cell? ⟨ba, 2, none⟩ = some (.int .i64 M)) (h0 : 0 ≤ M) (h1 : M ≤ 12) :
    Calls Yba.prog 11 #[.pointer (some ⟨ba, 0, none⟩), .int .u8 1] w fun e w' => e = .returned (.int .i64 (lo true M)) ∧ w' = w := by
  go_enter Yba.func11, Yba.ntmps11
  go_wp2
  go_ret
  exact ⟨rfl, rfl⟩
def ch (l N M hv : Int) : Int := if l < M - (N - hv) then M - (N - hv) else l
def okB (l N M hv : Int) : Bool := decide (ch l N M hv ≤ M ∧ ch l N M hv ≤ hv)

theorem hide {p : Prop} (h : p) : Hid p := h
theorem ret_two {a b : Int} {p q : Bool} (h : a = b) (k : p = q) : Ending.returned (.tuple #[.int .i64 a, .bool p]) = .returned (.tuple #[.int .i64 b, .bool q]) := by rw [h, k]

set_option maxHeartbeats 400000 in
theorem choose_any (ba : Nat) (N M hv l : Int) (w : World) (hN : w.cell? ⟨ba, 0, none⟩ = some (.int .i64 N)) (hM : w.cell? ⟨ba, 2, none⟩ = some (.int .i64 M)) (h0 : 0 ≤ M) (h1 : M ≤ 12) (h2 : 0 ≤ N) (h3 : N ≤ 12) (h4 : 0 ≤ hv) (h5 : hv ≤ 24) :
    Calls Yba.prog 10 #[.pointer (some ⟨ba, 0, none⟩), .int .i64 hv, .int .i64 l, .int .i64 M] w fun e w' => e = .returned (.tuple #[.int .i64 (ch l N M hv), .bool (okB l N M hv)]) ∧ ∃ n, w' = w.drewN n := by
  by_cases c1 : l < M - (N - hv)
  · by_cases c2 : hv < M
    all_goals
      go_enter Yba.func10, Yba.ntmps10
      go_wp2
      go_quiet (fail)
      go_wp2
      go_quiet (fail)
      go_wp2
      go_ret2
      exact ⟨ret_two (by unfold ch; rw [if_pos c1]) (by unfold okB ch; rw [if_pos c1]; rw [Bool.eq_iff_iff]; simp; try omega), _, World.drewN_drewN _ _ _⟩
  · by_cases c2 : hv < M
    all_goals
      go_enter Yba.func10, Yba.ntmps10
      go_wp2
      go_quiet (fail)
      go_wp2
      go_quiet (fail)
      go_wp2
      go_ret2
      exact ⟨ret_two (by unfold ch; rw [if_neg (by omega)]) (by unfold okB ch; rw [if_neg (by omega)]; rw [Bool.eq_iff_iff]; simp; try omega), _, World.drewN_drewN _ _ _⟩

def fitsAt (s : Bool) (N M hv x : Int) : Prop := lo s M ≤ x ∧ x ≤ hv ∧ M - x ≤ N - hv
theorem okB_of (s : Bool) (N M hv : Int) (k : Nat) (hk : (k : Int) ≤ M) (h : fitsAt s N M hv k) : okB (lo s M) N M hv = true := by
  unfold fitsAt at h
  unfold okB ch
  split <;> simp <;> omega
theorem okB_not (s : Bool) (N M hv : Int) (h0 : 0 ≤ M) (h : ∀ j : Nat, (j : Int) < M + 1 → ¬ fitsAt s N M hv j) : okB (lo s M) N M hv = false := by
  unfold okB
  rw [decide_eq_false_iff_not]
  rintro ⟨h1, h2⟩
  have hl : 0 ≤ lo s M := by unfold lo; split <;> omega
  have hc : lo s M ≤ ch (lo s M) N M hv ∧ M - (N - hv) ≤ ch (lo s M) N M hv := by unfold ch; split <;> omega
  have := h (ch (lo s M) N M hv).toNat (by omega)
  apply this
  unfold fitsAt
  omega

theorem none_step {k : Nat} {Q : Nat → Prop} (h : ∀ j : Nat, j < k → ¬ Q j) (hk : ¬ Q k) : ∀ j : Nat, j < k + 1 → ¬ Q j := by
  intro j hj
  rcases Nat.lt_succ_iff_lt_or_eq.1 hj with h' | rfl
  · exact h j h'
  · exact hk
theorem ret_bool {p q : Bool} (k : p = q) : Ending.returned (.bool p) = .returned (.bool q) := by rw [k]

set_option maxHeartbeats 1000000 in
theorem side_false (N M hv : Int) (w : World) (h0 : 0 ≤ M) (h1 : M ≤ 12) (h2 : 0 ≤ N) (h3 : N ≤ 12) (h4 : 0 ≤ hv) (h5 : hv ≤ 24) :
    Calls Yba.prog 6 #[.int .i64 N, .int .i64 M, .int .i64 hv, .bool false] w fun e w' => e = .returned (.bool (okB (lo false M) N M hv)) ∧ w' = w := by
  go_enter Yba.func6, Yba.ntmps6
  go_wp2
  go_loop [9] (fun x => ∃ k : Nat, (k : Int) ≤ M + 1 ∧ x = .int .i64 k ∧ ∀ j : Nat, j < k → ¬ fitsAt false N M hv j) (fun x => (M + 1 - intOf x).toNat)
  case atStart => exact ⟨0, by omega, rfl, fun j hj => absurd hj (Nat.not_lt_zero _)⟩
  case round =>
    obtain ⟨k, hk, rfl, hno'⟩ := hrel
    have hno : Hid (∀ j : Nat, j < k → ¬ fitsAt false N M hv j) := hno'
    clear hno'
    by_cases hlt : (k : Int) ≤ M
    · by_cases c1 : M ≤ 2 * (k : Int)
      · by_cases c2 : (k : Int) ≤ hv
        · by_cases c3 : M - (k : Int) ≤ N - hv
          · go_wp2
            go_ret
            exact ⟨ret_bool (okB_of false N M hv k hlt (by unfold fitsAt lo; simp; omega)).symm, rfl⟩
          · have hb : decide (M - (k : Int) ≤ N - hv) = false := by simp; omega
            go_wp2
            go_round
            case rel => exact ⟨k + 1, by omega, by go_num, none_step hno.out (by unfold fitsAt lo; simp; omega)⟩
            case measure => simp [intOf]; omega
        · have hb : decide ((k : Int) ≤ hv) = false := by simp; omega
          go_wp2
          go_round
          case rel => exact ⟨k + 1, by omega, by go_num, none_step hno.out (by unfold fitsAt lo; simp; omega)⟩
          case measure => simp [intOf]; omega
      · have hb : decide (M ≤ 2 * (k : Int)) = false := by simp; omega
        go_wp2
        go_round
        case rel => exact ⟨k + 1, by omega, by go_num, none_step hno.out (by unfold fitsAt lo; simp; omega)⟩
        case measure => simp [intOf]; omega
    · go_wp2
      go_ret
      exact ⟨ret_bool (okB_not false N M hv h0 (fun j hj => hno.out j (by omega))).symm, rfl⟩

set_option maxHeartbeats 1000000 in
theorem side_true (N M hv : Int) (w : World) (h0 : 0 ≤ M) (h1 : M ≤ 12) (h2 : 0 ≤ N) (h3 : N ≤ 12) (h4 : 0 ≤ hv) (h5 : hv ≤ 24) :
    Calls Yba.prog 6 #[.int .i64 N, .int .i64 M, .int .i64 hv, .bool true] w fun e w' => e = .returned (.bool (okB (lo true M) N M hv)) ∧ w' = w := by
  go_enter Yba.func6, Yba.ntmps6
  go_wp2
  go_loop [9] (fun x => ∃ k : Nat, (k : Int) ≤ M + 1 ∧ x = .int .i64 k ∧ ∀ j : Nat, j < k → ¬ fitsAt true N M hv j) (fun x => (M + 1 - intOf x).toNat)
  case atStart => exact ⟨0, by omega, rfl, fun j hj => absurd hj (Nat.not_lt_zero _)⟩
  case round =>
    obtain ⟨k, hk, rfl, hno'⟩ := hrel
    have hno : Hid (∀ j : Nat, j < k → ¬ fitsAt true N M hv j) := hno'
    clear hno'
    by_cases hlt : (k : Int) ≤ M
    · by_cases c1 : M < 2 * (k : Int)
      · by_cases c2 : (k : Int) ≤ hv
        · by_cases c3 : M - (k : Int) ≤ N - hv
          · go_wp2
            go_ret
            exact ⟨ret_bool (okB_of true N M hv k hlt (by unfold fitsAt lo; simp; omega)).symm, rfl⟩
          · have hb : decide (M - (k : Int) ≤ N - hv) = false := by simp; omega
            go_wp2
            go_round
            case rel => exact ⟨k + 1, by omega, by go_num, none_step hno.out (by unfold fitsAt lo; simp; omega)⟩
            case measure => simp [intOf]; omega
        · have hb : decide ((k : Int) ≤ hv) = false := by simp; omega
          go_wp2
          go_round
          case rel => exact ⟨k + 1, by omega, by go_num, none_step hno.out (by unfold fitsAt lo; simp; omega)⟩
          case measure => simp [intOf]; omega
      · have hb : decide (M < 2 * (k : Int)) = false := by simp; omega
        go_wp2
        go_round
        case rel => exact ⟨k + 1, by omega, by go_num, none_step hno.out (by unfold fitsAt lo; simp; omega)⟩
        case measure => simp [intOf]; omega
    · go_wp2
      go_ret
      exact ⟨ret_bool (okB_not true N M hv h0 (fun j hj => hno.out j (by omega))).symm, rfl⟩

def good (N M z o F : Int) (f : Nat) : Bool := okB (lo false M) N M (z + f) && okB (lo true M) N M (o + F - f)

set_option maxHeartbeats 1000000 in
theorem faultyZeros_some (ba : Nat) (N M z o : Int) (F cF : Nat) (af : Option Addr) (f0 : Nat) (w : World)
    (hN : w.cell? ⟨ba, 0, none⟩ = some (.int .i64 N)) (hM : w.cell? ⟨ba, 2, none⟩ = some (.int .i64 M)) (hF : w.cell? ⟨ba, 3, none⟩ = some (.slice af F cF))
    (h0 : 0 ≤ M) (h1 : M ≤ 12) (h2 : 0 ≤ N) (h3 : N ≤ 12) (h4 : 0 ≤ z) (h5 : z ≤ 12) (h6 : 0 ≤ o) (h7 : o ≤ 12) (h8 : F ≤ 12)
    (hf0 : f0 ≤ F) (hyes' : good N M z o F f0 = true) (hno' : ∀ j, j < f0 → good N M z o F j = false) :
    Calls Yba.prog 9 #[.pointer (some ⟨ba, 0, none⟩), .int .i64 z, .int .i64 o] w fun e w' => e = .returned (.tuple #[.int .i64 f0, .bool true]) ∧ ∃ n, w' = w.drewN n := by
  have hyes : Hid (good N M z o F f0 = true) := hyes'
  have hno : Hid (∀ j, j < f0 → good N M z o F j = false) := hno'
  clear hyes' hno'
  go_enter Yba.func9, Yba.ntmps9
  go_wp2
  go_loopw [9] (fun x wr => ∃ k n : Nat, k ≤ f0 ∧ x = .int .i64 k ∧ wr = w.drewN n) (fun x _ => f0 - (intOf x).toNat)
  case atStart => exact ⟨0, 0, by omega, rfl, rfl⟩
  case round =>
    obtain ⟨k, n, hk, rfl, hwr⟩ := hrel
    have hNr : wr.cell? ⟨ba, 0, none⟩ = some (.int .i64 N) := by rw [hwr]; exact hN
    have hMr : wr.cell? ⟨ba, 2, none⟩ = some (.int .i64 M) := by rw [hwr]; exact hM
    have HW : Hid (wr = w.drewN n) := hwr
    clear hwr
    by_cases hlt : k < f0
    · have hg := hno.out k hlt
      unfold good at hg
      obtain ⟨b1, H1⟩ : ∃ b, Hid (okB (lo false M) N M (z + k) = b) := ⟨_, hide rfl⟩
      obtain ⟨b2, H2⟩ : ∃ b, Hid (okB (lo true M) N M (o + F - k) = b) := ⟨_, hide rfl⟩
      rw [H1.out, H2.out] at hg
      have hkF : k ≤ F := by omega
      go_wp2_with fail
      go_quiet (first | (go_at_call 11; exact Calls.quiet_of_same (majority_zero ba M _ (by exact hMr) h0 h1)) | (go_at_call 10; exact Calls.quiet_of (choose_any ba N M _ _ _ (by exact hNr) (by exact hMr) h0 h1 h2 h3 (by omega) (by omega))))
      rw [H1.out]
      have hNq : (wr.drewN nq).cell? ⟨ba, 0, none⟩ = some (.int .i64 N) := hNr
      have hMq : (wr.drewN nq).cell? ⟨ba, 2, none⟩ = some (.int .i64 M) := hMr
      generalize hwq : wr.drewN nq = wq at hNq hMq ⊢
      have HQ : Hid (wq = w.drewN (n + nq)) := by rw [← hwq, HW.out, World.drewN_drewN]; exact hide rfl
      clear hwq
      go_wp2_with fail
      go_quiet (first | (go_at_call 11; exact Calls.quiet_of_same (majority_one ba M _ (by exact hMq) h0 h1)) | (go_at_call 10; exact Calls.quiet_of (choose_any ba N M _ _ _ (by exact hNq) (by exact hMq) h0 h1 h2 h3 (by omega) (by omega))))
      rw [H2.out]
      cases b1
      · go_wp2
        go_roundw
        case rel => exact ⟨k + 1, _, by omega, by go_num, by rw [HQ.out, World.drewN_drewN]⟩
        case measure => simp [intOf]; omega
      · cases b2
        · go_wp2
          go_roundw
          case rel => exact ⟨k + 1, _, by omega, by go_num, by rw [HQ.out, World.drewN_drewN]⟩
          case measure => simp [intOf]; omega
        · simp at hg
    · obtain rfl : k = f0 := by omega
      have hg := hyes.out
      unfold good at hg
      rw [Bool.and_eq_true] at hg
      have H1 : Hid (okB (lo false M) N M (z + k) = true) := hg.1
      have H2 : Hid (okB (lo true M) N M (o + F - k) = true) := hg.2
      clear hg
      go_wp2_with fail
      go_quiet (first | (go_at_call 11; exact Calls.quiet_of_same (majority_zero ba M _ (by exact hMr) h0 h1)) | (go_at_call 10; exact Calls.quiet_of (choose_any ba N M _ _ _ (by exact hNr) (by exact hMr) h0 h1 h2 h3 (by omega) (by omega))))
      rw [H1.out]
      have hNq : (wr.drewN nq).cell? ⟨ba, 0, none⟩ = some (.int .i64 N) := hNr
      have hMq : (wr.drewN nq).cell? ⟨ba, 2, none⟩ = some (.int .i64 M) := hMr
      generalize hwq : wr.drewN nq = wq at hNq hMq ⊢
      have HQ : Hid (wq = w.drewN (n + nq)) := by rw [← hwq, HW.out, World.drewN_drewN]; exact hide rfl
      clear hwq
      go_wp2_with fail
      go_quiet (first | (go_at_call 11; exact Calls.quiet_of_same (majority_one ba M _ (by exact hMq) h0 h1)) | (go_at_call 10; exact Calls.quiet_of (choose_any ba N M _ _ _ (by exact hNq) (by exact hMq) h0 h1 h2 h3 (by omega) (by omega))))
      rw [H2.out]
      go_wp2
      go_ret2
      exact ⟨rfl, _, by rw [HQ.out, World.drewN_drewN]⟩

set_option maxHeartbeats 1000000 in
theorem faultyZeros_none (ba : Nat) (N M z o : Int) (F cF : Nat) (af : Option Addr) (w : World)
    (hN : w.cell? ⟨ba, 0, none⟩ = some (.int .i64 N)) (hM : w.cell? ⟨ba, 2, none⟩ = some (.int .i64 M)) (hF : w.cell? ⟨ba, 3, none⟩ = some (.slice af F cF))
    (h0 : 0 ≤ M) (h1 : M ≤ 12) (h2 : 0 ≤ N) (h3 : N ≤ 12) (h4 : 0 ≤ z) (h5 : z ≤ 12) (h6 : 0 ≤ o) (h7 : o ≤ 12) (h8 : F ≤ 12)
    (hno' : ∀ j, j < F + 1 → good N M z o F j = false) :
    Calls Yba.prog 9 #[.pointer (some ⟨ba, 0, none⟩), .int .i64 z, .int .i64 o] w fun e w' => e = .returned (.tuple #[.int .i64 0, .bool false]) ∧ ∃ n, w' = w.drewN n := by
  have hno : Hid (∀ j, j < F + 1 → good N M z o F j = false) := hno'
  clear hno'
  go_enter Yba.func9, Yba.ntmps9
  go_wp2
  go_loopw [9] (fun x wr => ∃ k n : Nat, k ≤ F + 1 ∧ x = .int .i64 k ∧ wr = w.drewN n) (fun x _ => F + 1 - (intOf x).toNat)
  case atStart => exact ⟨0, 0, by omega, rfl, rfl⟩
  case round =>
    obtain ⟨k, n, hk, rfl, hwr⟩ := hrel
    have hNr : wr.cell? ⟨ba, 0, none⟩ = some (.int .i64 N) := by rw [hwr]; exact hN
    have hMr : wr.cell? ⟨ba, 2, none⟩ = some (.int .i64 M) := by rw [hwr]; exact hM
    have HW : Hid (wr = w.drewN n) := hwr
    clear hwr
    by_cases hlt : k < F + 1
    · have hg := hno.out k hlt
      unfold good at hg
      obtain ⟨b1, H1⟩ : ∃ b, Hid (okB (lo false M) N M (z + k) = b) := ⟨_, hide rfl⟩
      obtain ⟨b2, H2⟩ : ∃ b, Hid (okB (lo true M) N M (o + F - k) = b) := ⟨_, hide rfl⟩
      rw [H1.out, H2.out] at hg
      have hkF : k ≤ F := by omega
      go_wp2_with fail
      go_quiet (first | (go_at_call 11; exact Calls.quiet_of_same (majority_zero ba M _ (by exact hMr) h0 h1)) | (go_at_call 10; exact Calls.quiet_of (choose_any ba N M _ _ _ (by exact hNr) (by exact hMr) h0 h1 h2 h3 (by omega) (by omega))))
      rw [H1.out]
      have hNq : (wr.drewN nq).cell? ⟨ba, 0, none⟩ = some (.int .i64 N) := hNr
      have hMq : (wr.drewN nq).cell? ⟨ba, 2, none⟩ = some (.int .i64 M) := hMr
      generalize hwq : wr.drewN nq = wq at hNq hMq ⊢
      have HQ : Hid (wq = w.drewN (n + nq)) := by rw [← hwq, HW.out, World.drewN_drewN]; exact hide rfl
      clear hwq
      go_wp2_with fail
      go_quiet (first | (go_at_call 11; exact Calls.quiet_of_same (majority_one ba M _ (by exact hMq) h0 h1)) | (go_at_call 10; exact Calls.quiet_of (choose_any ba N M _ _ _ (by exact hNq) (by exact hMq) h0 h1 h2 h3 (by omega) (by omega))))
      rw [H2.out]
      cases b1
      · go_wp2
        go_roundw
        case rel => exact ⟨k + 1, _, by omega, by go_num, by rw [HQ.out, World.drewN_drewN]⟩
        case measure => simp [intOf]; omega
      · cases b2
        · go_wp2
          go_roundw
          case rel => exact ⟨k + 1, _, by omega, by go_num, by rw [HQ.out, World.drewN_drewN]⟩
          case measure => simp [intOf]; omega
        · simp at hg
    · go_wp2
      go_ret2
      exact ⟨rfl, _, HW.out⟩
end Plan
end Go.Proofs.Ybulkafje
