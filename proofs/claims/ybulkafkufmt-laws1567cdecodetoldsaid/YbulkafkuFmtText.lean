/-
  THE WALKS OF 'encodeKey' AND 'decodeKey' AT A TEXT, AND OF 'LawS1567CTextRoundTrip'.
-/
import Derived.Test.YbulkafkuFmtTable
import Derived.Lib.ConvBytes
import Derived.Laws.IdiomStrings
namespace Go.Proofs.YbulkafkuFmt
open Go.RowKit

theorem is_text (v : Value) (w : World) : (Instr.typeAssert (.iface 9 v) 20 9 true).run Ybaf.prog w = .ok (.tuple #[v, .bool true]) w := by
  simp [Instr.typeAssert, run_underlying Ybaf.underlying9, go_sem, Result.andThen]
theorem is_int (v : Value) (w : World) : (Instr.typeAssert (.iface 2 v) 20 2 true).run Ybaf.prog w = .ok (.tuple #[v, .bool true]) w := by
  simp [Instr.typeAssert, run_underlying Ybaf.underlying2, go_sem, Result.andThen]

set_option maxRecDepth 100000 in
set_option maxHeartbeats 1000000 in
theorem encode_text (p : Option Addr) (s : ByteArray) (w : World) :
    Calls Ybaf.prog 11 #[.pointer p, .iface 9 (.string s)] w fun e w' => e = .returned (.slice (some ⟨w.heap.size, 0, none⟩) s.size (grownCap w s.size 0 5)) ∧ w' = Lib.bytesWorld w 5 s := by
  have hta := is_text
  have hcv := Lib.run_convert_string_bytes (P := Ybaf.prog) w 9 56 5 s Ybaf.underlying9 Ybaf.underlying56 Ybaf.underlying5
  go_enter Ybaf.func11, Ybaf.ntmps11
  go_wp2
  go_ret
  exact ⟨rfl, rfl⟩

set_option maxRecDepth 100000 in
set_option maxHeartbeats 1000000 in
theorem decode_text (b g n k : Nat) (ao : Option Addr) (l c : Nat) (s : ByteArray) (w : World) (ht : TableIs w b g n k 2) (hcv : (convert 56 9 (.slice ao l c)).run Ybaf.prog w.drew = .ok (.string s) w.drew) :
    Calls Ybaf.prog 10 #[.pointer (some ⟨b, 0, none⟩), .slice ao l c] w fun e w' => e = .returned (.tuple #[.iface 9 (.string s), .nilIface]) ∧ w' = w.drew := by
  obtain ⟨h1, h2, h3, h4, h5⟩ := ht
  rw [Nat.mul_comm] at h3
  go_enter Ybaf.func10, Ybaf.ntmps10
  go_wp2_with fail
  go_region
  all_goals (try go_wp2)
  all_goals go_ret2
  all_goals exact ⟨rfl, rfl⟩

/-- The bytes of a string lie in the cells from ⟨g, 0⟩ on: read back they are the string. -/
theorem back_text (w : World) (g c : Nat) (s : ByteArray) (h : ∀ j, j < s.size → w.cell? ⟨g, j, none⟩ = some (.int .u8 (s.data.toList.getD j 0).toNat)) :
    (convert 56 9 (.slice (some ⟨g, 0, none⟩) s.size c)).run Ybaf.prog w = .ok (.string s) w := by
  have hl : s.data.toList.length = s.size := rfl
  have := run_convert_bytes_back (P := Ybaf.prog) w 56 9 5 ⟨g, 0, none⟩ c s.data.toList Ybaf.underlying56 Ybaf.underlying5 Ybaf.underlying9 (fun j hj => by
    rw [Addr.add_lit, Nat.zero_add, h j (by omega)]
    rw [List.getD, List.getElem?_eq_getElem hj]
    rfl)
  rw [hl] at this
  rw [this]

theorem bytes_below {w w0 : World} {B : Nat} (h : Below B w0 w) (hB : B ≤ w.heap.size) (s : ByteArray) : Below B w0 (Lib.bytesWorld w 5 s) :=
  ⟨h.os, h.tape, h.output, by rw [Lib.bytesWorld_size]; exact Nat.le_succ_of_le h.size, fun k hk => (Lib.bytesWorld_at_old w 5 s k (by omega)).trans (h.block k hk)⟩

theorem TableIs.bytes {w : World} {b g n k : Nat} {ty : Int} (h : TableIs w b g n k ty) (s : ByteArray) : TableIs (Lib.bytesWorld w 5 s) b g n k ty :=
  ⟨(Lib.bytesWorld_old w 5 s _ (World.block_lt_of_cell? _ _ h.cols)).trans h.cols, (Lib.bytesWorld_old w 5 s _ (World.block_lt_of_cell? _ _ h.key)).trans h.key, (Lib.bytesWorld_old w 5 s _ (World.block_lt_of_cell? _ _ h.type)).trans h.type, h.inn, h.small⟩

set_option maxRecDepth 100000 in
set_option maxHeartbeats 1000000 in
theorem round_in (a : Int) (s : ByteArray) (w : World) (ha : 0 ≤ a) (ha2 : a ≤ 255) (hs : s.size ≤ 1024) :
    Calls Ybaf.prog 5 #[.int .u8 a, .string s] w fun e w' => e = .returned (.bool true) ∧ Below w.heap.size w w' := by
  have hta := is_text
  go_enter Ybaf.func5, Ybaf.ntmps5
  go_wp2_with fail
  refine (table_any true a w ha ha2).mono ?_
  rintro e w1 ⟨b, g, n, k, rfl, ht, hb1⟩
  go_wp2_with fail
  refine (encode_text (some ⟨b, 0, none⟩) s w1).mono ?_
  rintro e w2 ⟨rfl, hw2⟩
  have hsz := hb1.size
  have hb2 : Below w.heap.size w w2 := by rw [hw2]; exact bytes_below hb1 hsz s
  have ht2 : TableIs w2 b g n k 2 := by rw [hw2]; exact ht.bytes s
  have hcv : (convert 56 9 (.slice (some ⟨w1.heap.size, 0, none⟩) s.size (grownCap w1 s.size 0 5))).run Ybaf.prog w2.drew = .ok (.string s) w2.drew :=
    back_text _ _ _ s (fun j hj => by
      show w2.cell? _ = _
      rw [hw2]
      exact Lib.bytesWorld_cell w1 5 s j hj)
  have HCV := hide hcv
  clear hw2 hcv
  go_wp2_with fail
  refine (decode_text b g n k _ _ _ s w2 ht2 HCV.out).mono ?_
  rintro e w3 ⟨rfl, hw3⟩
  have hb3 : Below w.heap.size w w3 := by rw [hw3]; exact ⟨hb2.os, hb2.tape, hb2.output, hb2.size, hb2.block⟩
  clear hw3
  go_wp2
  go_ret
  exact ⟨rfl, hb3⟩

set_option maxRecDepth 100000 in
theorem round_big (a : Int) (s : ByteArray) (w : World) (hs : 1024 < s.size) (hm : s.size ≤ maxLen) :
    Calls Ybaf.prog 5 #[.int .u8 a, .string s] w fun e w' => e = .returned (.bool true) ∧ Below w.heap.size w w' := by
  unfold maxLen at hm
  go_enter Ybaf.func5, Ybaf.ntmps5
  go_wp2
  go_ret
  exact ⟨rfl, Below.refl _ _⟩
end Go.Proofs.YbulkafkuFmt
