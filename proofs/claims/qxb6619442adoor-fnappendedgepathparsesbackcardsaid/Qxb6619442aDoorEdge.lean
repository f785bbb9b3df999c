import Derived.Test.Qxb6619442aDoorShelf
import Derived.Test.Qxb6619442aDoorPlain
import Derived.Lib.AppendIntMem
import Derived.Lib.ItoaLen
import Derived.Lib.Slices
import Derived.Lib.Hide
import Derived.Laws.IdiomStrings
import Derived.OwnWalk
import Derived.WalkKit
import Derived.BigCall
namespace Go.Proofs.Qxb6619442aDoor
open Go.Shelf Go.RowKit

theorem infoByte : (Tryd.prog.info? 5).map (fun i => (i.zero, i.size, i.bytes)) = some (some (.int .u8 0), 1, 1) := by kernel_rfl

theorem line_cells (a c : Int) (xs : List Value) : xs ++ (Lib.byteCells (Lib.itoa a) ++ Value.int .u8 32 :: (Lib.byteCells (Lib.itoa c) ++ [Value.int .u8 10])) = xs ++ Lib.byteCells (line a c) := by
  simp [Lib.byteCells, line]

theorem line_length (a c : Int) : (line a c).length = (Lib.itoa a).length + 1 + (Lib.itoa c).length + 1 := by
  simp [line]; omega

set_option maxHeartbeats 6400000 in
set_option maxRecDepth 100000 in
/-- appendEdge onto a slice of the call's own (or nil): a's numeral, a blank, c's numeral, a newline. -/
theorem appendEdge_any (B n : Nat) (a c : Int) (a0 : -9223372036854775808 ≤ a) (a1 : a ≤ 9223372036854775807) (c0 : -9223372036854775808 ≤ c) (c1 : c ≤ 9223372036854775807) (sv : Value) (xs : List Value) (w : World)
    (hown : w.ownsRow B 5 1 sv n xs) (hBw : B ≤ w.heap.size) (hlim : n + 64 ≤ 140737488355328)
    (hT : Lib.TabBelow Tryd.prog B w powName .u64 Lib.pow10Tab) :
    Calls Tryd.prog 10 #[sv, .int .i64 a, .int .i64 c] w fun e w' => ∃ v', e = .returned v' ∧ w'.ownsRow B 5 1 v' (n + (line a c).length) (xs ++ Lib.byteCells (line a c)) ∧ Below B w w' := by
  obtain ⟨i0, hi, hz0, hz1, hz2⟩ := info_parts infoByte
  have la := Lib.itoa_length_le a a0 a1
  have lb := Lib.itoa_length_le c c0 c1
  go_enter Tryd.func10, Tryd.ntmps10
  go_wp2_with (go_at_call 13; refine (appendInt_laid B n a a0 a1 sv xs w hown hBw (by omega) hT).mono ?_; rintro e w1 ⟨v1, rfl, hown1, hnx1, -⟩; refine Hid.out ?_)
  refine Lib.hid ?_
  have hs1 := hnx1.size
  go_wp2_with (at_builtin; refine wpList_append_own _ rfl _ _ 22 rfl B 5 i0 (.int .u8 0) 1 1 Tryd.underlying22 hi hz0 hz1 hz2 rfl (by decide) _ _ _ rfl (hown1.alloc _) ⟨w1.heap.size, 0, none⟩ 1 1 [Value.int .u8 32] rfl rfl (by intro j u' hj; match j, hj with | 0, hj => simp at hj; subst hj; simp [Addr.add]) (by intro u' hu'; simp at hu'; subst hu'; rfl) (by unfold maxLen; omega) (by omega) (by simp; omega) ?_)
  intro v2 w2 hown2 hgrow _
  have hnx2 : Below B w w2 := (hnx1.alloc (by omega) _).grown hgrow (by simp; omega) (fun k hk => (hown1.lt k hk).1)
  have hs2 := hnx2.size
  go_wp2_with (go_at_call 13; refine (appendInt_laid B _ c c0 c1 v2 _ w2 hown2 (by omega) (by omega) (hT.on hnx2)).mono ?_; rintro e w3 ⟨v3, rfl, hown3, hnx3, -⟩; refine Hid.out ?_)
  refine Lib.hid ?_
  have hs3 := hnx3.size
  go_wp2_with (at_builtin; refine wpList_append_own _ rfl _ _ 22 rfl B 5 i0 (.int .u8 0) 1 1 Tryd.underlying22 hi hz0 hz1 hz2 rfl (by decide) _ _ _ rfl (hown3.alloc _) ⟨w3.heap.size, 0, none⟩ 1 1 [Value.int .u8 10] rfl rfl (by intro j u' hj; match j, hj with | 0, hj => simp at hj; subst hj; simp [Addr.add]) (by intro u' hu'; simp at hu'; subst hu'; rfl) (by unfold maxLen; omega) (by omega) (by simp; omega) ?_)
  intro v4 w4 hown4 hgrow4 _
  have hnx4 : Below B w w4 := ((hnx2.trans hnx3).alloc (by omega) _).grown hgrow4 (by simp; omega) (fun k hk => (hown3.lt k hk).1)
  go_wp2
  go_ret
  refine ⟨v4, rfl, ?_, hnx4⟩
  rw [← line_cells, line_length]
  have e1 : n + ((Lib.itoa a).length + 1 + (Lib.itoa c).length + 1) = n + (Lib.itoa a).length + 1 + (Lib.itoa c).length + 1 := by omega
  rw [e1]
  exact hown4

set_option maxHeartbeats 400000 in
theorem zzAppendEdge_any (B n : Nat) (a c : Int) (a0 : -9223372036854775808 ≤ a) (a1 : a ≤ 9223372036854775807) (c0 : -9223372036854775808 ≤ c) (c1 : c ≤ 9223372036854775807) (sv : Value) (xs : List Value) (w : World)
    (hown : w.ownsRow B 5 1 sv n xs) (hBw : B ≤ w.heap.size) (hlim : n + 64 ≤ 140737488355328)
    (hT : Lib.TabBelow Tryd.prog B w powName .u64 Lib.pow10Tab) :
    Calls Tryd.prog 7 #[sv, .int .i64 a, .int .i64 c] w fun e w' => ∃ v', e = .returned v' ∧ w'.ownsRow B 5 1 v' (n + (line a c).length) (xs ++ Lib.byteCells (line a c)) ∧ Below B w w' := by
  go_enter Tryd.func7, Tryd.ntmps7
  go_wp2_with (go_at_call 10; refine (appendEdge_any B n a c a0 a1 c0 c1 sv xs w hown hBw hlim hT).mono ?_; rintro e w1 ⟨v1, rfl, hown1, hnx1⟩)
  go_ret
  exact ⟨v1, rfl, hown1, hnx1⟩

end Go.Proofs.Qxb6619442aDoor
