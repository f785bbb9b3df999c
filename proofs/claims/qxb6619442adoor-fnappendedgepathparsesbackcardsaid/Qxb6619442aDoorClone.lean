import Derived.Test.Qxb6619442aDoorEdge
import Derived.Laws.OwnMore
import Derived.WalkSpells
import Derived.Deep.Light
namespace Go.Proofs.Qxb6619442aDoor
open Go.Shelf Go.RowKit

/-- A slice value that reads as the bytes l: nothing to read, or a row of cells. -/
def Rd (w : World) (v : Value) (l : List UInt8) : Prop :=
  (l = [] ∧ ∃ a cap, v = .slice a 0 cap) ∨
  ∃ b off cap, v = .slice (some ⟨b, off, none⟩) l.length cap ∧ b < w.heap.size ∧ ∀ j (h : j < l.length), w.cell? ⟨b, off + j, none⟩ = some (.int .u8 l[j].toNat)

theorem byteCells_length (l : List UInt8) : (Lib.byteCells l).length = l.length := by simp [Lib.byteCells]
theorem byteCells_get (l : List UInt8) (j : Nat) (h : j < l.length) : (Lib.byteCells l)[j]'(by rw [byteCells_length]; exact h) = .int .u8 l[j].toNat := by simp [Lib.byteCells]

theorem take_set_succ (xs ys : List Value) (k : Nat) (hx : k < xs.length) (hy : k < ys.length) (h : xs.take k = ys.take k) : (xs.set k ys[k]).take (k + 1) = ys.take (k + 1) := by
  rw [List.take_succ_eq_append_getElem (by simpa using hx), List.take_succ_eq_append_getElem hy, List.take_set, List.getElem_set_self]
  congr 1
  rw [List.set_eq_of_length_le (by simp; omega)]
  exact h

set_option maxHeartbeats 1000000 in
theorem clone_some (x : Addr) (cap : Nat) (l : List UInt8) (w : World) (hl : l.length ≤ 1048576) (hcell : ∀ j (h : j < l.length), x = ⟨x.block, x.off, none⟩ ∧ x.block < w.heap.size ∧ w.cell? ⟨x.block, x.off + j, none⟩ = some (.int .u8 l[j].toNat)) :
    Calls Tryd.prog 6 #[.slice (some x) l.length cap] w fun e w' => ∃ v', e = .returned v' ∧ w'.ownsRow w.heap.size 5 1 v' l.length (Lib.byteCells l) ∧ Below w.heap.size w w' := by
  obtain ⟨i0, hi, hz0, hz1, hz2⟩ := info_parts infoByte
  have hnil := fun (w : World) (a : Option Addr) (n c : Nat) => Lib.run_eql_slice_nil (P := Tryd.prog) w 22 5 a n c 0 0 Tryd.underlying22
  obtain ⟨w1, hmk, hown0, hg0⟩ := run_make_full (P := Tryd.prog) w w.heap.size 22 5 i0 (.int .u8 0) 1 Tryd.underlying22 hi hz0 hz1 .i64 .i64 l.length (by rw [hz2]; omega) (by unfold maxLen; omega) (Nat.le_refl _)
  go_enter Tryd.func6, Tryd.ntmps6
  go_wp2
  go_loopw [4] (fun i wr => ∃ (k : Nat) (xs : List Value), k ≤ l.length ∧ i = .int .i64 k ∧ wr.ownsRow w.heap.size 5 1 (.slice (some ⟨w.heap.size, 0, none⟩) l.length l.length) l.length xs ∧ xs.take k = (Lib.byteCells l).take k ∧ Below w.heap.size w wr) (fun i _ => l.length - (intOf i).toNat)
  case atStart => exact ⟨0, _, Nat.zero_le _, rfl, hown0, rfl, (Below.refl _ _).grown hg0 (Nat.le_refl _) (fun k hk => by cases hk)⟩
  case round =>
    obtain ⟨k, xs, hk, rfl, hown, htk, hnx⟩ := hrel
    clear hmk hown0 hg0
    have hxl : xs.length = l.length := by simpa using hown.1
    have HT : Hid (xs.take k = (Lib.byteCells l).take k) := htk
    clear htk
    by_cases hlt : k < l.length
    · obtain ⟨hx, hxb, hc⟩ := hcell k hlt
      obtain ⟨b, off, sp⟩ := x
      simp only [Addr.mk.injEq, true_and] at hx
      subst hx
      have hc1 : wr.cell? ⟨b, off + k, none⟩ = some (.int .u8 l[k].toNat) := (hnx.cell (p := ⟨b, off + k, none⟩) hxb).trans hc
      have hc2 : wr.cell? ⟨w.heap.size, k, none⟩ = some (xs[k]'(by omega)) := by
        rw [hown.cellAt k (by omega)]; exact List.getElem?_eq_getElem (by omega)
      have hf2 : wr.frozen? ⟨w.heap.size, k, none⟩ = false := hown.frozenAt k
      clear hc
      have hi1 : (k : Int) < (l.length : Int) := by omega
      go_wp2
      have hst := hown.stored k (.int .u8 l[k].toNat)
      have hy : k < (Lib.byteCells l).length := by rw [byteCells_length]; exact hlt
      have hts := take_set_succ xs (Lib.byteCells l) k (by omega) hy HT.out
      rw [byteCells_get l k hlt] at hts
      go_light
      refine ⟨⟨k + 1, xs.set k (.int .u8 l[k].toNat), hlt, by go_num, hst.1, hts, hnx.setCell (Nat.le_refl _) _⟩, ?_⟩
      simp [intOf]; omega
    · go_wp2
      go_ret
      refine ⟨_, rfl, ?_, hnx⟩
      have e : xs = Lib.byteCells l := by
        have := HT.out
        rwa [List.take_of_length_le (by omega), List.take_of_length_le (by rw [byteCells_length]; omega)] at this
      rw [← e]
      exact hown

set_option maxHeartbeats 400000 in
theorem clone_nil (w : World) :
    Calls Tryd.prog 6 #[.slice none 0 0] w fun e w' => ∃ v', e = .returned v' ∧ w'.ownsRow w.heap.size 5 1 v' 0 [] ∧ Below w.heap.size w w' := by
  have hnil := fun (w : World) (a : Option Addr) (n c : Nat) => Lib.run_eql_slice_nil (P := Tryd.prog) w 22 5 a n c 0 0 Tryd.underlying22
  go_enter Tryd.func6, Tryd.ntmps6
  go_wp2
  go_ret
  exact ⟨_, rfl, World.ownsRow_nil _ _ _ _, Below.refl _ _⟩

/-- A slice that came in, as the law's walk is told of it. -/
def Came (w : World) (v : Value) (l : List UInt8) : Prop :=
  (v = .slice none 0 0 ∧ l = []) ∨
  ∃ x cap, v = .slice (some x) l.length cap ∧ ∀ j (h : j < l.length), x = ⟨x.block, x.off, none⟩ ∧ x.block < w.heap.size ∧ w.cell? ⟨x.block, x.off + j, none⟩ = some (.int .u8 l[j].toNat)

theorem clone_any (v : Value) (l : List UInt8) (w : World) (hl : l.length ≤ 1048576) (hc : Came w v l) :
    Calls Tryd.prog 6 #[v] w fun e w' => ∃ v', e = .returned v' ∧ w'.ownsRow w.heap.size 5 1 v' l.length (Lib.byteCells l) ∧ Below w.heap.size w w' := by
  rcases hc with ⟨rfl, rfl⟩ | ⟨x, cap, rfl, hcell⟩
  · exact clone_nil w
  · exact clone_some x cap l w hl hcell

end Go.Proofs.Qxb6619442aDoor
