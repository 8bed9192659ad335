/-
  LEMMAS FOR THE WALK OF 'consensus.LawS1564APlan': the two rows that the law fills, the adversary that it makes.
-/
import Derived.Test.YbulkafjePlanPlan
import Derived.Test.YbulkafjePlanPlain
import Derived.Deep.DeepCutAuto
import Derived.Deep.CutBlock
namespace Go.Proofs.Ybulkafje
open Go.RowKit
namespace Plan
theorem info3 : (Yba.prog.info? 3).map (fun i => (i.zero, i.size, i.bytes)) = some (some (.int .i64 0), 1, 8) := by kernel_rfl
theorem rep_getD (N p : Nat) : (List.replicate N (0 : Int)).getD p 0 = 0 := by
  rw [List.getD_eq_getElem?_getD, List.getElem?_replicate]
  split <;> rfl
def wvOf (b : Bool) : Int := if b then 1 else 0
theorem wvOf_01 (b : Bool) : 0 ≤ wvOf b ∧ wvOf b ≤ 1 := by cases b <;> decide
theorem fs_step (a : Int) (p : Nat) (h : isF a p = true) : fsOf a (p + 1) = fsOf a p ++ [p] ∧ csOf a (p + 1) = csOf a p := by
  rw [fsOf_succ, csOf_succ, h]
  simp
theorem cs_step (a : Int) (p : Nat) (h : isF a p = false) : fsOf a (p + 1) = fsOf a p ∧ csOf a (p + 1) = csOf a p ++ [p] := by
  rw [fsOf_succ, csOf_succ, h]
  simp
/-- Two slices of the call's own lie in different rows. -/
def apartRows (v v' : Value) : Prop := ∀ g, v.ownBlock = some g → v'.ownBlock ≠ some g

/-- What one append does to the two rows. -/
theorem rows_step {B : Nat} {wr w1 : World} {v v1 u : Value} {m : Nat} {ys : List Value} {o : Obj} (hu : wr.ownsRow B 3 1 u m ys) (hap : apartRows v u) 
    (hg : (wr.alloc o).grownBy w1 v.ownBlock) (hloc : v1.ownBlock = v.ownBlock ∨ v1.ownBlock = some (wr.alloc o).heap.size) : w1.ownsRow B 3 1 u m ys ∧ apartRows v1 u := by
  have hu' := hu.alloc o
  refine ⟨hu'.kept hg ?_, ?_⟩
  · cases hub : u.ownBlock with
    | none => exact Or.inl rfl
    | some g => exact Or.inr (fun e => hap g e.symm hub)
  · intro g hg1 hg2
    have hlt := (hu'.lt g hg2).2
    rcases hloc with h | h
    · exact hap g (h ▸ hg1) hg2
    · rw [h] at hg1
      injection hg1 with hg1
      omega
theorem apart_symm {v u : Value} (h : apartRows v u) : apartRows u v := fun g h1 h2 => h g h2 h1

/-- The world behind '&coinAdversary{..}'. -/
def madeAdv (wc : World) (N F M : Nat) (af : Option Addr) (cF : Nat) (ac : Option Addr) (C cC : Nat) (wv : Int) : World :=
  (wc.alloc (.map #[] 0)).alloc (.cells #[.int .i64 N, .int .i64 F, .int .i64 M, .slice af F cF, .slice ac C cC, .int .u8 wv, .int .i64 0, .int .i64 0, .slice none 0 0, .bool false, .slice none 0 0, .slice none 0 0, .slice none 0 0, .map (some wc.heap.size)] 35)
theorem madeAdv_adv (wc : World) (N F M : Nat) (af : Option Addr) (cF : Nat) (ac : Option Addr) (C cC : Nat) (wv : Int) : Adv (madeAdv wc N F M af cF ac C cC wv) (wc.heap.size + 1) wc.heap.size N M wv af ac F cF C cC := by
  have hb : (madeAdv wc N F M af cF ac C cC wv).heap[wc.heap.size + 1]? = some (.cells #[.int .i64 N, .int .i64 F, .int .i64 M, .slice af F cF, .slice ac C cC, .int .u8 wv, .int .i64 0, .int .i64 0, .slice none 0 0, .bool false, .slice none 0 0, .slice none 0 0, .slice none 0 0, .map (some wc.heap.size)] 35 (0, 0)) := by
    unfold madeAdv
    rw [← World.size_alloc wc (.map #[] 0), heap_alloc_new]
  exact ⟨cell_blk hb rfl, cell_blk hb rfl, cell_blk hb rfl, cell_blk hb rfl, cell_blk hb rfl, cell_blk hb rfl, _, hb⟩
theorem madeAdv_but (wc : World) (N F M : Nat) (af : Option Addr) (cF : Nat) (ac : Option Addr) (C cC : Nat) (wv : Int) : But [] wc (madeAdv wc N F M af cF ac C cC wv) :=
  ((But.refl _ _).alloc _).alloc _
theorem madeAdv_size (wc : World) (N F M : Nat) (af : Option Addr) (cF : Nat) (ac : Option Addr) (C cC : Nat) (wv : Int) : (madeAdv wc N F M af cF ac C cC wv).heap.size = wc.heap.size + 2 := by
  unfold madeAdv
  simp
theorem madeAdv_rounds (wc : World) (N F M : Nat) (af : Option Addr) (cF : Nat) (ac : Option Addr) (C cC : Nat) (wv : Int) : Rounds (madeAdv wc N F M af cF ac C cC wv) wc.heap.size 0 (fun _ => none) :=
  (Rounds.made wc).kept (heap_alloc_old _ _ (h := by simp))

end Plan
end Go.Proofs.Ybulkafje
