/-
  PLAIN FACTS FOR 'LawS1564APlan': who is faulty, who is correct, whose bit is what. No walk.
-/
import Derived.Test.YbulkafjePlanHeap
namespace Go.Proofs.Ybulkafje
open Go.RowKit
namespace Plan
def isF (a : Int) (p : Nat) : Bool := bits .and .u16 (a / 2 ^ p) 1 == 1
def bitOf (a : Int) (p : Nat) : Int := IntKind.u8.wrap (bits .and .u16 (a / 2 ^ p) 1)
def fsOf (a : Int) (n : Nat) : List Nat := (List.range n).filter (fun p => isF a p)
def csOf (a : Int) (n : Nat) : List Nat := (List.range n).filter (fun p => !isF a p)
def bsOf (a b : Int) (n : Nat) : List Int := (csOf a n).map (bitOf b)

theorem bitOf_01 (a : Int) (p : Nat) (h0 : 0 ≤ a) (h1 : a ≤ 65535) : bitOf a p = 0 ∨ bitOf a p = 1 := by
  unfold bitOf
  have hd : 0 ≤ a / 2 ^ p := Int.ediv_nonneg h0 (Int.pow_nonneg (by decide))
  have hl : a / 2 ^ p ≤ a := Int.ediv_le_self _ h0
  rw [u16_and _ _ hd (by omega) (by omega) (by omega)]
  rw [show (1 : Int).toNat = 1 from rfl, Nat.and_one_is_mod, IntKind.wrap_u8']
  omega

theorem fsOf_succ (a : Int) (n : Nat) : fsOf a (n + 1) = fsOf a n ++ if isF a n then [n] else [] := by
  unfold fsOf
  rw [List.range_succ, List.filter_append]
  congr 1
  cases h : isF a n <;> simp [h]
theorem csOf_succ (a : Int) (n : Nat) : csOf a (n + 1) = csOf a n ++ if isF a n then [] else [n] := by
  unfold csOf
  rw [List.range_succ, List.filter_append]
  congr 1
  cases h : isF a n <;> simp [h]
theorem fsOf_len (a : Int) (n : Nat) : (fsOf a n).length ≤ n := by
  have := List.length_filter_le (fun p => isF a p) (List.range n)
  simpa [fsOf] using this
theorem csOf_len (a : Int) (n : Nat) : (csOf a n).length ≤ n := by
  have := List.length_filter_le (fun p => !isF a p) (List.range n)
  simpa [csOf] using this
theorem getD_mem {l : List Nat} {i : Nat} (h : i < l.length) : l.getD i 0 ∈ l := by
  simp [List.getD_eq_getElem?_getD, h]
theorem fsOf_lt (a : Int) (n i : Nat) (h : i < (fsOf a n).length) : (fsOf a n).getD i 0 < n := by
  have := getD_mem h
  generalize (fsOf a n).getD i 0 = x at this ⊢
  simp [fsOf] at this
  exact this.1
theorem csOf_lt (a : Int) (n i : Nat) (h : i < (csOf a n).length) : (csOf a n).getD i 0 < n := by
  have := getD_mem h
  generalize (csOf a n).getD i 0 = x at this ⊢
  simp [csOf] at this
  exact this.1
theorem apart (a : Int) (n i j : Nat) (h : i < (fsOf a n).length) (h' : j < (csOf a n).length) : (fsOf a n).getD i 0 ≠ (csOf a n).getD j 0 := by
  have h1 := getD_mem h
  have h2 := getD_mem h'
  intro e
  rw [e] at h1
  generalize (csOf a n).getD j 0 = x at h1 h2
  simp [csOf] at h2
  simp [fsOf] at h1
  simp [h1.2] at h2
theorem rising_ne {l : List Nat} (hs : l.Pairwise (· < ·)) (i j : Nat) (h : i < j) (hj : j < l.length) : l.getD i 0 ≠ l.getD j 0 := by
  have := List.pairwise_iff_getElem.1 hs i j (by omega) hj h
  simp [List.getD_eq_getElem?_getD, List.getElem?_eq_getElem hj, List.getElem?_eq_getElem (show i < l.length by omega)]
  omega
theorem range_rising (n : Nat) : (List.range n).Pairwise (· < ·) := by
  rw [List.pairwise_iff_getElem]
  intro i j hi hj h
  simpa using h
theorem fsOf_ne (a : Int) (n : Nat) : ∀ i j, i < j → j < (fsOf a n).length → (fsOf a n).getD i 0 ≠ (fsOf a n).getD j 0 :=
  rising_ne ((range_rising n).filter _)
theorem csOf_ne (a : Int) (n : Nat) : ∀ i j, i < j → j < (csOf a n).length → (csOf a n).getD i 0 ≠ (csOf a n).getD j 0 :=
  rising_ne ((range_rising n).filter _)
theorem bsOf_len (a b : Int) (n : Nat) : (bsOf a b n).length = (csOf a n).length := by simp [bsOf]
theorem bsOf_at (a b : Int) (n i : Nat) (h : i < (csOf a n).length) : (bsOf a b n).getD i 0 = bitOf b ((csOf a n).getD i 0) := by
  simp [bsOf, List.getD_eq_getElem?_getD, List.getElem?_eq_getElem h]

/-! ### a slice that the call owns, as a row of process numbers -/
def ivals (l : List Nat) : List Value := l.map (fun p : Nat => Value.int .i64 (p : Int))
theorem row_of_owns {w : World} {base : Nat} {v : Value} {l : List Nat} (h : w.ownsRow base 3 1 v l.length (ivals l)) : ∃ a g c, v = .slice a l.length c ∧ Row w a g l := by
  obtain ⟨_, h2⟩ := h
  rcases h2 with ⟨rfl, hn⟩ | ⟨g, cap, cur, rfl, _, hg, _, _, hs, ht⟩
  · have : l = [] := List.length_eq_zero_iff.1 hn
    subst this
    exact ⟨none, 0, 0, rfl, fun h => absurd rfl h⟩
  · refine ⟨some ⟨g, 0, none⟩, g, cap, rfl, fun _ => ⟨rfl, cur, hg, ?_⟩⟩
    intro i x hx
    have hi : i < l.length := (List.getElem?_eq_some_iff.1 hx).1
    have e : (cur.toList.take (l.length * 1))[i]? = some (.int .i64 (x : Int)) := by rw [ht]; simp [ivals, hx]
    rw [List.getElem?_take_of_lt (by omega)] at e
    simpa using e
theorem ivals_snoc (l : List Nat) (p : Nat) : ivals (l ++ [p]) = ivals l ++ [.int .i64 (p : Int)] := by simp [ivals]

/-! ### the keys of the three rounds -/
theorem keys_apart (k : Int) (_h0 : -9223372036854775808 ≤ k) (_h1 : k ≤ 9223372036854775807) : wrap64 (k + 1) ≠ k ∧ wrap64 (k + 2) ≠ k ∧ wrap64 (k + 2) ≠ wrap64 (k + 1) := by
  unfold wrap64
  omega
end Plan
end Go.Proofs.Ybulkafje
