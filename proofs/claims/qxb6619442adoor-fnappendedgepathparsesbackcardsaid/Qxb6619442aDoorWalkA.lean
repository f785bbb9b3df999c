import Derived.Test.Qxb6619442aDoorLine
import Derived.Test.Qxb6619442aDoorClone
import Derived.Deep.QuietTactic
import Derived.BigQuiet
import Derived.WalkSmall
namespace Go.Proofs.Qxb6619442aDoor
open Go.Shelf Go.RowKit

theorem ret_bool {a b : Bool} (h : a = b) : Ending.returned (.bool a) = .returned (.bool b) := by rw [h]

set_option maxHeartbeats 400000 in
theorem bytesA_any (ao : Option Addr) (n cap : Nat) (a c : Int) (w : World) (hn : n ≤ 9223372036854775807) :
    Calls Tryd.prog 5 #[.slice ao n cap, .int .i64 a, .int .i64 c] w fun e w' => e = .returned (.bool (decide (n ≤ 1048576))) ∧ w = w' := by
  by_cases h : n ≤ 1048576
  all_goals
    go_enter Tryd.func5, Tryd.ntmps5
    go_wp2
    go_ret
    exact ⟨ret_bool (by simp [h]), rfl⟩

/-- An owned row of bytes, and where it lies. -/
theorem own_bytes {w : World} {B n : Nat} {v : Value} {l : List UInt8} (h : w.ownsRow B 5 1 v n (Lib.byteCells l)) (hl : l ≠ []) :
    n = l.length ∧ ∃ g cap, v = .slice (some ⟨g, 0, none⟩) l.length cap ∧ B ≤ g ∧ g < w.heap.size ∧ ∀ j (hj : j < l.length), w.cell? ⟨g, j, none⟩ = some (.int .u8 (l[j].toNat : Int)) := by
  have hn : n = l.length := by have := h.1; rw [byteCells_length] at this; omega
  subst hn
  refine ⟨rfl, ?_⟩
  rcases h.2 with ⟨_, h0⟩ | ⟨g, cap, cur, rfl, hb, hg, _⟩
  · exact absurd (List.length_eq_zero_iff.1 h0) hl
  · refine ⟨g, cap, rfl, hb, (Array.getElem?_eq_some_iff.1 hg).1, fun j hj => ?_⟩
    rw [h.cellAt j (by omega), List.getElem?_eq_getElem (by rw [byteCells_length]; exact hj), byteCells_get l j hj]

theorem line_ne (a c : Int) : line a c ≠ [] := by
  intro e
  have := line_length a c
  rw [e] at this
  simp at this

theorem line_le (a c : Int) (a0 : -9223372036854775808 ≤ a) (a1 : a ≤ 9223372036854775807) (c0 : -9223372036854775808 ≤ c) (c1 : c ≤ 9223372036854775807) : (line a c).length ≤ 44 := by
  have := Lib.itoa_length_le a a0 a1
  have := Lib.itoa_length_le c c0 c1
  rw [line_length]
  omega

set_option maxHeartbeats 1000000 in
theorem walkA_big (ao : Option Addr) (n cap : Nat) (a c : Int) (w : World) (hn : n ≤ 9223372036854775807) (hbig : ¬ n ≤ 1048576) :
    Calls Tryd.prog 3 #[.slice ao n cap, .int .i64 a, .int .i64 c] w fun e w' => e = .returned (.bool true) ∧ Below w.heap.size w w' := by
  go_enter Tryd.func3, Tryd.ntmps3
  go_wp2_with (go_at_call 5; refine (bytesA_any _ _ _ _ _ _ hn).mono ?_; rintro e w' ⟨rfl, rfl⟩)
  go_ret
  exact ⟨rfl, Below.refl _ _⟩

/-- The bytes m lie from the head of block g on. -/
def Row (w : World) (g : Nat) (m : List UInt8) : Prop := g < w.heap.size ∧ ∀ j (hj : j < m.length), w.cell? ⟨g, j, none⟩ = some (.int .u8 (m[j].toNat : Int))

theorem Row.at {w : World} {g : Nat} {m : List UInt8} (h : Row w g m) : At w g 0 0 m := fun j hj => by
  have := h.2 j hj
  simpa using this

theorem Row.on {B : Nat} {w w' : World} {g : Nat} {m : List UInt8} (h : Row w g m) (hb : Below B w w') (hg : g < B) : Row w' g m :=
  ⟨Nat.lt_of_lt_of_le h.1 hb.size, fun j hj => (hb.cell (p := ⟨g, j, none⟩) hg).trans (h.2 j hj)⟩

theorem edge_bytes (B : Nat) (l : List UInt8) (a c : Int) (a0 : -9223372036854775808 ≤ a) (a1 : a ≤ 9223372036854775807) (c0 : -9223372036854775808 ≤ c) (c1 : c ≤ 9223372036854775807) (sv : Value) (w : World)
    (hown : w.ownsRow B 5 1 sv l.length (Lib.byteCells l)) (hBw : B ≤ w.heap.size) (hlim : l.length ≤ 1099511627776)
    (hT : Lib.TabBelow Tryd.prog B w powName .u64 Lib.pow10Tab) :
    Calls Tryd.prog 7 #[sv, .int .i64 a, .int .i64 c] w fun e w' => ∃ g cap, e = .returned (.slice (some ⟨g, 0, none⟩) (l ++ line a c).length cap) ∧
      w'.ownsRow B 5 1 (.slice (some ⟨g, 0, none⟩) (l ++ line a c).length cap) (l ++ line a c).length (Lib.byteCells (l ++ line a c)) ∧ Row w' g (l ++ line a c) ∧ Below B w w' := by
  refine (zzAppendEdge_any B l.length a c a0 a1 c0 c1 sv _ w hown hBw (by omega) hT).mono ?_
  rintro e w' ⟨v', rfl, hown', hnx⟩
  have e1 : Lib.byteCells l ++ Lib.byteCells (line a c) = Lib.byteCells (l ++ line a c) := by simp [Lib.byteCells]
  rw [e1] at hown'
  obtain ⟨hn, g, cap, rfl, _, hg, hcs⟩ := own_bytes hown' (by intro e; exact line_ne a c (List.append_eq_nil_iff.1 e).2)
  rw [hn] at hown'
  exact ⟨g, cap, rfl, hown', ⟨hg, hcs⟩, hnx⟩

/-- lineIs from the row's head on. -/
theorem lineIs_head (g cap : Nat) (a c : Int) (w : World) (a0 : -9223372036854775808 ≤ a) (a1 : a ≤ 9223372036854775807) (c0 : -9223372036854775808 ≤ c) (c1 : c ≤ 9223372036854775807) (H : Row w g (line a c)) :
    Calls Tryd.prog 8 #[.slice (some ⟨g, 0, none⟩) (line a c).length cap, .int .i64 0, .int .i64 a, .int .i64 c] w fun e w' =>
      e = .returned (.tuple #[.int .i64 ((line a c).length : Int), .bool true]) ∧ w = w' := by
  have hln := line_le a c a0 a1 c0 c1
  refine (lineIs_any g 0 cap (line a c).length 0 a c w (by omega) a0 a1 c0 c1 H.at (by omega)).mono ?_
  rintro e w' ⟨rfl, rfl⟩
  exact ⟨ret_line (by omega), rfl⟩

set_option maxHeartbeats 4000000 in
theorem walkA (ao : Option Addr) (cap : Nat) (l : List UInt8) (a c : Int) (w : World) (hl : l.length ≤ 1048576) (hca : Came w (.slice ao l.length cap) l)
    (hcell : ∀ j (h : j < l.length), ∃ b off, ao = some ⟨b, off, none⟩ ∧ b < w.heap.size ∧ w.cell? ⟨b, off + j, none⟩ = some (.int .u8 (l[j].toNat : Int)))
    (a0 : -9223372036854775808 ≤ a) (a1 : a ≤ 9223372036854775807) (c0 : -9223372036854775808 ≤ c) (c1 : c ≤ 9223372036854775807)
    (hT : Lib.TabIs Tryd.prog w powName .u64 Lib.pow10Tab) :
    Calls Tryd.prog 3 #[.slice ao l.length cap, .int .i64 a, .int .i64 c] w fun e w' => e = .returned (.bool true) ∧ Below w.heap.size w w' := by
  have hB := Lib.tabBelow_of_tabIs hT
  have hln := line_le a c a0 a1 c0 c1
  have HCL := Lib.hid hcell
  clear hcell
  go_enter Tryd.func3, Tryd.ntmps3
  go_wp2_with (go_at_call 5; refine (bytesA_any _ _ _ _ _ _ (by omega)).mono ?_; rintro e w' ⟨rfl, rfl⟩)
  refine (clone_any _ l _ hl hca).mono ?_
  rintro e w1 ⟨v1, rfl, hown1, hnx1⟩
  go_wp2_with fail
  refine (edge_bytes _ l a c a0 a1 c0 c1 v1 w1 hown1 hnx1.size (by omega) (hB.on hnx1)).mono ?_
  rintro e w2 ⟨g2, cap2, rfl, -, hr2, hnx2⟩
  go_wp2_with fail
  have hb2 : Below w.heap.size w w2 := hnx1.trans hnx2
  refine (edge_bytes w2.heap.size [] a c a0 a1 c0 c1 (.slice none 0 0) w2 (World.ownsRow_nil _ _ _ _) (Nat.le_refl _) (by simp) (Lib.tabBelow_of_tabIs (hB.on hb2).here)).mono ?_
  rintro e w3 ⟨g3, cap3, rfl, -, hr3, hnx3⟩
  have hb3 : Below w.heap.size w w3 := hb2.trans (hnx3.mono hb2.size)
  have hr23 : Row w3 g2 (l ++ line a c) := hr2.on hnx3 hr2.1
  rw [List.nil_append] at hr3 ⊢
  go_wp2
  go_loopw [10] (fun i wr => ∃ k : Nat, k ≤ l.length ∧ i = .int .i64 (k : Int) ∧ Below w3.heap.size w3 wr) (fun i _ => l.length - (intOf i).toNat)
  case atStart => exact ⟨0, Nat.zero_le _, rfl, Below.refl _ _⟩
  case round =>
    obtain ⟨k, hk, rfl, hwr⟩ := hrel
    by_cases hlt : k < l.length
    · obtain ⟨b, off, hao, hbl, hcb⟩ := HCL.out k hlt
      subst hao
      have q1 : wr.cell? ⟨b, off + k, none⟩ = some (.int .u8 (l[k].toNat : Int)) := by
        rw [hwr.cell (p := ⟨b, off + k, none⟩) (Nat.lt_of_lt_of_le hbl hb3.size), hb3.cell (p := ⟨b, off + k, none⟩) hbl]
        exact hcb
      have q2 : wr.cell? ⟨g2, k, none⟩ = some (.int .u8 (l[k].toNat : Int)) := by
        rw [hwr.cell (p := ⟨g2, k, none⟩) hr23.1, hr23.2 k (by rw [List.length_append]; omega), List.getElem_append_left hlt]
      have hk1 : (k : Int) < (l.length : Int) := by omega
      have hk2 : (k : Int) < (l.length : Int) + ((line a c).length : Int) := by omega
      clear hcb
      go_wp2
      go_quiet (fail)
      go_wp2
      go_light
      refine ⟨⟨k + 1, by omega, by go_num, below_drewN hwr _⟩, ?_⟩
      simp [intOf]; omega
    · go_wp2
      clear hlt
      go_loopw [11] (fun i wq => ∃ k : Nat, k ≤ (line a c).length ∧ i = .int .i64 (k : Int) ∧ Below w3.heap.size w3 wq) (fun i _ => (line a c).length - (intOf i).toNat)
      case atStart => exact ⟨0, Nat.zero_le _, rfl, hwr⟩
      case round =>
        obtain ⟨k, hk, rfl, hwq⟩ := hrel
        by_cases hlt : k < (line a c).length
        · have q1 : wr.cell? ⟨g3, k, none⟩ = some (.int .u8 ((line a c)[k].toNat : Int)) := by
            rw [hwq.cell (p := ⟨g3, k, none⟩) hr3.1, hr3.2 k hlt]
          have q2 : wr.cell? ⟨g2, l.length + k, none⟩ = some (.int .u8 ((line a c)[k].toNat : Int)) := by
            rw [hwq.cell (p := ⟨g2, l.length + k, none⟩) hr23.1, hr23.2 (l.length + k) (by rw [List.length_append]; omega), List.getElem_append_right (by omega)]
            simp
          have hk1 : (k : Int) < ((line a c).length : Int) := by omega
          have hk2 : (l.length : Int) + (k : Int) < (l.length : Int) + ((line a c).length : Int) := by omega
          go_wp2
          go_quiet (fail)
          go_wp2
          go_light
          refine ⟨⟨k + 1, by omega, by go_num, below_drewN hwq _⟩, ?_⟩
          simp [intOf]; omega
        · have hr4 : Row wr g3 (line a c) := hr3.on hwq hr3.1
          go_wp2_with fail
          refine (lineIs_head g3 cap3 a c wr a0 a1 c0 c1 hr4).mono ?_
          rintro e w' ⟨rfl, rfl⟩
          go_wp2
          go_ret
          exact ⟨rfl, hb3.trans (hwq.mono hb3.size)⟩
end Go.Proofs.Qxb6619442aDoor
