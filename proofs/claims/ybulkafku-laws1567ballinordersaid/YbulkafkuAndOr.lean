/-
  THE CONTRACTS OF '(*and).holds' AND '(*or).holds' over terms of the law's own kind.
-/
import Derived.Test.YbulkafkuTerm
namespace Go.Proofs.Ybulkafku
open Go.RowKit

/-- The i-th term, qs an interface value. -/
def termV (g : Nat) : Value := .iface 28 (.pointer (some ⟨g, 0, none⟩))

/-- The slice 'v' of w holds the terms with the answers qs, numbered from 0, each with the wanted length wt, the flag in block bb, the log in block bl. -/
def Terms (w : World) (B : Nat) (v : Value) (qs : List Bool) (wt : Int) (bb bl : Nat) : Prop :=
  ∃ gs : List Nat, gs.length = qs.length ∧ w.ownsRow B 42 1 v qs.length (gs.map termV) ∧ ∀ (i g : Nat) (a : Bool), gs[i]? = some g → qs[i]? = some a → w.heap[g]? = some (.cells (termCells a i wt bb bl) 32 (0, 0))

theorem Terms.kept {w w' : World} {B : Nat} {v : Value} {qs : List Bool} {wt : Int} {bb bl : Nat} (h : Terms w B v qs wt bb bl) (hk : Kept B w w') : Terms w' B v qs wt bb bl := by
  obtain ⟨gs, h1, h2, h3⟩ := h
  refine ⟨gs, h1, ⟨h2.1, ?_⟩, fun i g a hg ha => hk.old _ _ _ _ (h3 i g a hg ha) (by decide) (by decide)⟩
  rcases h2.2 with h | ⟨g, cap, cur, rfl, hb, hg, r⟩
  · exact Or.inl h
  · exact Or.inr ⟨g, cap, cur, rfl, hb, hk.old _ _ _ _ hg (by decide) (by decide), r⟩

/-- What a walk reads of the slice of terms: its shape, its index, its cells. -/
theorem Terms.read {w : World} {B : Nat} {v : Value} {qs : List Bool} {wt : Int} {bb bl : Nat} (h : Terms w B v qs wt bb bl) : ∃ ao cap g, v = .slice ao qs.length cap ∧
    ∀ (i : Nat) (a : Bool), qs[i]? = some a → (∀ w' : World, (Instr.indexAt 27 (.slice ao qs.length cap) (.int .i64 i)).run Yba.prog w' = .ok (.pointer (some ⟨g, i, none⟩)) w') ∧
      ∀ w' : World, Kept B w w' → ∃ bt, w'.cell? ⟨g, i, none⟩ = some (.iface 28 (.pointer (some ⟨bt, 0, none⟩))) ∧ w'.heap[bt]? = some (.cells (termCells a i wt bb bl) 32 (0, 0)) := by
  obtain ⟨gs, h1, h2, h3⟩ := h
  rcases h2.2 with ⟨rfl, h⟩ | ⟨g, cap, cur, rfl, hb, hg, _, _, _, ht⟩
  · refine ⟨none, 0, 0, by rw [h], fun i a ha => ?_⟩
    have := (List.getElem?_eq_some_iff.1 ha).1
    omega
  · refine ⟨some ⟨g, 0, none⟩, cap, g, rfl, fun i a ha => ?_⟩
    have hi : i < qs.length := (List.getElem?_eq_some_iff.1 ha).1
    obtain ⟨bt, hbt⟩ : ∃ bt, gs[i]? = some bt := ⟨gs[i], List.getElem?_eq_getElem (by omega)⟩
    refine ⟨fun w' => ?_, fun w' hk => ⟨bt, ?_, hk.old _ _ _ _ (h3 i bt a hbt ha) (by decide) (by decide)⟩⟩
    · rw [run_indexAt_slice _ _ _ _ _ _ _ (by kernel_rfl), if_pos (by omega)]
      have e3 : Yba.prog.elem 27 = 42 := by kernel_rfl
      have hs : (sizeOf 42).run Yba.prog w' = .ok 1 w' := by kernel_rfl
      rw [e3, hs]
      simp [Result.andThen, Addr.add_lit]
    · refine cell_blk (hk.old _ _ _ _ hg (by decide) (by decide)) ?_
      have e : (cur.toList.take (qs.length * 1))[i]? = some (termV bt) := by
        rw [ht]
        simp [hbt]
      rw [List.getElem?_take_of_lt (by omega)] at e
      simpa [termV] using e

def upto (n : Nat) : List Int := (List.range n).map (fun i : Nat => (i : Int))
theorem upto_succ (n : Nat) : upto (n + 1) = upto n ++ [(n : Int)] := by simp [upto, List.range_succ]
theorem upto_len (n : Nat) : (upto n).length = n := by simp [upto]

/-- How many answers are true ahead of the first false one. -/
def lead : List Bool → Nat
  | [] => 0
  | true :: r => lead r + 1
  | false :: _ => 0
theorem lead_le : ∀ qs : List Bool, lead qs ≤ qs.length
  | [] => Nat.le_refl _
  | true :: r => by have := lead_le r; simp [lead]; omega
  | false :: _ => Nat.zero_le _
theorem lead_true : ∀ (qs : List Bool) (i : Nat), i < lead qs → qs[i]? = some true
  | [], _, h => absurd h (Nat.not_lt_zero _)
  | true :: _, 0, _ => rfl
  | true :: r, i + 1, h => by
    have := lead_true r i (by simp [lead] at h; omega)
    simpa using this
  | false :: _, _, h => absurd h (Nat.not_lt_zero _)
theorem lead_false : ∀ qs : List Bool, lead qs < qs.length → qs[lead qs]? = some false
  | [], h => absurd h (Nat.not_lt_zero _)
  | true :: r, h => by
    have := lead_false r (by simp [lead] at h; omega)
    simpa [lead] using this
  | false :: _, _ => rfl
theorem lead_all : ∀ qs : List Bool, qs.all id = (lead qs == qs.length)
  | [] => rfl
  | true :: r => by
    have := lead_all r
    simp [lead] at this ⊢
    exact this
  | false :: r => by simp [lead]

/-- How many terms 'and' asks. -/
def asked (qs : List Bool) : Nat := if lead qs = qs.length then qs.length else lead qs + 1

/-- A method looked up on an interface value whose type is known. -/
theorem upon_method {P : Program} {o : Oper} {a : Act} {K : Act → World → Prop} {Q : Exit → Act → World → Prop} {m t : Nat} {v : Value} {nm : String} {w : World} {k : FuncId × Value → World → Result Next} (f : FuncId) (u : Value)
    (h : (method m t v nm).run P w = .ok (f, u) w) (hk : Oper.upon P o a K Q (k (f, u) w)) : Oper.upon P o a K Q (((method m t v nm).run P w).andThen k) := by
  rw [h]
  exact hk

set_option maxRecDepth 100000 in
set_option maxHeartbeats 1000000 in
theorem and_any (B ba bb bl : Nat) (v : Value) (qs : List Bool) (wt : Int) (n c : Nat) (r : Option Addr) (xs : List Int) (w : World) (ha : w.heap[ba]? = some (.cells #[v] 35 (0, 0))) (hT : Terms w B v qs wt bb bl) (hL : LogIs w B bl xs) (hn : (n : Int) = wt) (hxs : xs.length + qs.length ≤ 4000) (hB : B ≤ bl) (hBs : B ≤ w.heap.size) :
    Calls Yba.prog 6 #[.pointer (some ⟨ba, 0, none⟩), .slice r n c] w fun e w' => e = .returned (.bool (qs.all id)) ∧ LogIs w' B bl (xs ++ upto (asked qs)) ∧ Kept B w w' := by
  obtain ⟨ao, cap, g, rfl, hrd⟩ := hT.read
  have ca : w.cell? ⟨ba, 0, none⟩ = some (.slice ao qs.length cap) := cell_blk ha rfl
  have HRD := hide hrd
  have HN := hide hn
  clear hrd hT hn ha
  have hkl := lead_le qs
  go_enter Yba.func6, Yba.ntmps6
  go_wp2_with fail
  go_loopw [12] (fun y wr => ∃ i : Nat, i ≤ lead qs ∧ y = .int .i64 i ∧ LogIs wr B bl (xs ++ upto i) ∧ Kept B w wr) (fun y _ => qs.length - (intOf y).toNat)
  case atStart => exact ⟨0, Nat.zero_le _, rfl, by simpa [upto] using hL, Kept.refl _ _⟩
  case round =>
    obtain ⟨i, hi, rfl, hLr, hKr⟩ := hrel
    have hsr := hKr.below.size
    by_cases hlt : i < qs.length
    · by_cases hle : i < lead qs
      · obtain ⟨hix, hc⟩ := HRD.out i true (lead_true qs i hle)
        obtain ⟨bt, hcell, hterm⟩ := hc wr hKr
        have HTM := hide hterm
        clear hc hterm
        go_wp2_with fail
        refine upon_method 23 (.pointer (some ⟨bt, 0, none⟩)) (by kernel_rfl) ?_
        go_wp2_with (go_at_call 23; refine (term_any B bt bb bl true i wt n c r (xs ++ upto i) wr HTM.out hLr HN.out (by rw [List.length_append, upto_len]; omega) hB (by omega)).mono ?_; rintro e w2 ⟨rfl, hL2, hK2⟩)
        go_roundw
        case rel => exact ⟨i + 1, by omega, by go_num, by rw [upto_succ, ← List.append_assoc]; exact hL2, hKr.trans hK2⟩
        case measure => simp [intOf]; omega
      · obtain rfl : i = lead qs := by omega
        obtain ⟨hix, hc⟩ := HRD.out (lead qs) false (lead_false qs hlt)
        obtain ⟨bt, hcell, hterm⟩ := hc wr hKr
        have HTM := hide hterm
        have HA : Hid (qs.all id = false) := by rw [lead_all, beq_eq_false_iff_ne]; exact fun e => by omega
        have HAS : Hid (asked qs = lead qs + 1) := by unfold asked; rw [if_neg (by omega)]; exact hide rfl
        clear hc hterm
        go_wp2_with fail
        refine upon_method 23 (.pointer (some ⟨bt, 0, none⟩)) (by kernel_rfl) ?_
        go_wp2_with (go_at_call 23; refine (term_any B bt bb bl false (lead qs : Nat) wt n c r (xs ++ upto (lead qs)) wr HTM.out hLr HN.out (by rw [List.length_append, upto_len]; omega) hB (by omega)).mono ?_; rintro e w2 ⟨rfl, hL2, hK2⟩)
        go_ret
        refine ⟨by rw [HA.out]; rfl, ?_, hKr.trans hK2⟩
        rw [HAS.out, upto_succ, ← List.append_assoc]
        exact hL2
    · have hq : lead qs = qs.length := by omega
      have HA : Hid (qs.all id = true) := by rw [lead_all, beq_iff_eq]; exact hq
      have HAS : Hid (asked qs = i) := by unfold asked; rw [if_pos hq]; exact hide (by omega)
      clear hq
      go_wp2
      go_ret
      exact ⟨by rw [HA.out]; rfl, by rw [HAS.out]; exact hLr, hKr⟩

theorem any_true {rs : List Bool} {i : Nat} (h : rs[i]? = some true) : rs.any id = true := by
  rw [List.any_eq_true]
  exact ⟨true, List.mem_of_getElem? h, rfl⟩
theorem any_false {rs : List Bool} (h : ∀ j, j < rs.length → rs[j]? = some false) : rs.any id = false := by
  rw [List.any_eq_false]
  intro x hx
  obtain ⟨j, hj, rfl⟩ := List.getElem_of_mem hx
  have := h j hj
  rw [List.getElem?_eq_getElem hj] at this
  simp at this
  simp [this]
theorem any_step {rs : List Bool} {i : Nat} (h : ∀ j, j < i → rs[j]? = some false) (hi : rs[i]? = some false) : ∀ j, j < i + 1 → rs[j]? = some false := by
  intro j hj
  rcases Nat.lt_succ_iff_lt_or_eq.1 hj with h' | rfl
  · exact h j h'
  · exact hi

set_option maxRecDepth 100000 in
set_option maxHeartbeats 1000000 in
theorem or_any (B ba bb bl : Nat) (v : Value) (qs : List Bool) (wt : Int) (n c : Nat) (r : Option Addr) (xs : List Int) (w : World) (ha : w.heap[ba]? = some (.cells #[v] 39 (0, 0))) (hT : Terms w B v qs wt bb bl) (hL : LogIs w B bl xs) (hn : (n : Int) = wt) (hxs : xs.length + qs.length ≤ 4000) (hB : B ≤ bl) (hBs : B ≤ w.heap.size) :
    Calls Yba.prog 7 #[.pointer (some ⟨ba, 0, none⟩), .slice r n c] w fun e w' => e = .returned (.bool (qs.any id)) ∧ Kept B w w' := by
  obtain ⟨ao, cap, g, rfl, hrd⟩ := hT.read
  have ca : w.cell? ⟨ba, 0, none⟩ = some (.slice ao qs.length cap) := cell_blk ha rfl
  have HRD := hide hrd
  have HN := hide hn
  clear hrd hT hn ha
  go_enter Yba.func7, Yba.ntmps7
  go_wp2_with fail
  go_loopw [12] (fun y wr => ∃ i : Nat, i ≤ qs.length ∧ y = .int .i64 i ∧ LogIs wr B bl (xs ++ upto i) ∧ Kept B w wr ∧ ∀ j, j < i → qs[j]? = some false) (fun y _ => qs.length - (intOf y).toNat)
  case atStart => exact ⟨0, Nat.zero_le _, rfl, by simpa [upto] using hL, Kept.refl _ _, fun j hj => absurd hj (Nat.not_lt_zero _)⟩
  case round =>
    obtain ⟨i, hi, rfl, hLr, hKr, hno⟩ := hrel
    have HNO := hide hno
    clear hno
    have hsr := hKr.below.size
    by_cases hlt : i < qs.length
    · obtain ⟨a, haa⟩ : ∃ a, qs[i]? = some a := ⟨qs[i], List.getElem?_eq_getElem hlt⟩
      obtain ⟨hix, hc⟩ := HRD.out i a haa
      obtain ⟨bt, hcell, hterm⟩ := hc wr hKr
      have HTM := hide hterm
      have HAA := hide haa
      clear hc hterm haa
      cases a
      · go_wp2_with fail
        refine upon_method 23 (.pointer (some ⟨bt, 0, none⟩)) (by kernel_rfl) ?_
        go_wp2_with (go_at_call 23; refine (term_any B bt bb bl false i wt n c r (xs ++ upto i) wr HTM.out hLr HN.out (by rw [List.length_append, upto_len]; omega) hB (by omega)).mono ?_; rintro e w2 ⟨rfl, hL2, hK2⟩)
        go_roundw
        case rel => exact ⟨i + 1, by omega, by go_num, by rw [upto_succ, ← List.append_assoc]; exact hL2, hKr.trans hK2, any_step HNO.out HAA.out⟩
        case measure => simp [intOf]; omega
      · go_wp2_with fail
        refine upon_method 23 (.pointer (some ⟨bt, 0, none⟩)) (by kernel_rfl) ?_
        go_wp2_with (go_at_call 23; refine (term_any B bt bb bl true i wt n c r (xs ++ upto i) wr HTM.out hLr HN.out (by rw [List.length_append, upto_len]; omega) hB (by omega)).mono ?_; rintro e w2 ⟨rfl, hL2, hK2⟩)
        go_ret
        exact ⟨by rw [any_true HAA.out]; rfl, hKr.trans hK2⟩
    · have HA : Hid (qs.any id = false) := any_false (fun j hj => HNO.out j (by omega))
      go_wp2
      go_ret
      exact ⟨by rw [HA.out]; rfl, hKr⟩

end Go.Proofs.Ybulkafku
