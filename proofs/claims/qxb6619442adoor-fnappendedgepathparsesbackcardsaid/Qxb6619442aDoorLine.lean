import Derived.Test.Qxb6619442aDoorParse
namespace Go.Proofs.Qxb6619442aDoor
open Go.Shelf Go.RowKit

/-- The bytes l lie in block b from place off + s on. -/
def At (w : World) (b off s : Nat) (l : List UInt8) : Prop :=
  ∀ j (h : j < l.length), w.cell? ⟨b, off + (s + j), none⟩ = some (.int .u8 (l[j].toNat : Int))

theorem At.left {w : World} {b off s : Nat} {l r : List UInt8} (h : At w b off s (l ++ r)) : At w b off s l := fun j hj => by
  have := h j (by simp; omega)
  rwa [List.getElem_append_left hj] at this

theorem At.right {w : World} {b off s : Nat} {l r : List UInt8} (h : At w b off s (l ++ r)) : At w b off (s + l.length) r := fun j hj => by
  have := h (l.length + j) (by simp; omega)
  rw [List.getElem_append_right (by omega)] at this
  simp only [Nat.add_sub_cancel_left] at this
  rw [show s + l.length + j = s + (l.length + j) by omega]
  exact this

theorem At.tail {w : World} {b off s : Nat} {c : UInt8} {r : List UInt8} (h : At w b off s (c :: r)) : At w b off (s + 1) r := fun j hj => by
  have := h (j + 1) (by simp; omega)
  rw [show s + 1 + j = s + (j + 1) by omega]
  simpa using this

theorem At.digs {w : World} {b off s n u : Nat} {stop : UInt8} {r : List UInt8} (h : At w b off s (Lib.decDigits u ++ stop :: r)) (hn : s + (Lib.decDigits u).length < n) : Digs w b off s n u stop.toNat := by
  refine ⟨fun j hj => h.left j hj, ?_, hn⟩
  have := h.right 0 (by simp)
  simpa using this

theorem parse_itoa (b off cap n i : Nat) (stop : UInt8) (r : List UInt8) (a : Int) (w : World) (hn : n ≤ 1099511627776) (a0 : -9223372036854775808 ≤ a) (a1 : a ≤ 9223372036854775807) (hst : stop.toNat ≤ 47)
    (H : At w b off i (Lib.itoa a ++ stop :: r)) (hr : i + (Lib.itoa a).length < n) :
    Calls Tryd.prog 11 #[.slice (some ⟨b, off, none⟩) n cap, .int .i64 (i : Int), .int .u8 (stop.toNat : Int)] w fun e w' =>
      e = .returned (.tuple #[.bool (decide (a < 0)), .int .u64 (a.natAbs : Int), .int .i64 ((i : Int) + ((Lib.itoa a).length : Int) + 1), .bool true]) ∧ w' = w := by
  by_cases hneg : a < 0
  · obtain ⟨u, rfl⟩ : ∃ u : Nat, a = -(u : Int) := ⟨a.natAbs, by omega⟩
    rw [Lib.itoa_neg u (by omega)] at H hr ⊢
    have H1 : At w b off (i + 1) (Lib.decDigits u ++ stop :: r) := H.tail
    have h45 : w.cell? ⟨b, off + i, none⟩ = some (.int .u8 45) := by
      have := H 0 (by simp)
      simpa using this
    simp only [List.length_cons] at hr ⊢
    refine (parse_neg b off cap n i u stop.toNat w hn (by omega) hst (by omega) h45 (H1.digs (by omega))).mono ?_
    rintro e w' ⟨rfl, rfl⟩
    refine ⟨?_, rfl⟩
    have e1 : (i : Int) + 1 + ((Lib.decDigits u).length : Int) + 1 = (i : Int) + (((Lib.decDigits u).length + 1 : Nat) : Int) + 1 := by omega
    have e2 : ((-(u : Int)).natAbs : Int) = (u : Int) := by omega
    rw [e1, e2, decide_eq_true hneg]
  · obtain ⟨u, rfl⟩ : ∃ u : Nat, a = (u : Int) := ⟨a.toNat, by omega⟩
    rw [Lib.itoa_nonneg u] at H hr ⊢
    refine (parse_pos b off cap n i u stop.toNat w hn (by omega) hst (H.digs hr)).mono ?_
    rintro e w' ⟨rfl, rfl⟩
    refine ⟨?_, rfl⟩
    rw [decide_eq_false hneg, Int.natAbs_natCast]

theorem ret_two {b : Bool} {x y : Int} (h : x = y) : Ending.returned (.tuple #[.bool b, .int .u64 x]) = .returned (.tuple #[.bool b, .int .u64 y]) := by rw [h]

set_option maxHeartbeats 400000 in
theorem magOf_neg (a : Int) (w : World) (a0 : -9223372036854775808 ≤ a) (hneg : a < 0) :
    Calls Tryd.prog 12 #[.int .i64 a] w fun e w' => e = .returned (.tuple #[.bool true, .int .u64 (-a)]) ∧ w' = w := by
  have h1 : -9223372036854775807 ≤ a + 1 := by omega
  go_enter Tryd.func12, Tryd.ntmps12
  go_wp2
  go_ret2
  exact ⟨ret_two (by omega), rfl⟩

set_option maxHeartbeats 400000 in
theorem magOf_pos (a : Int) (w : World) (a1 : a ≤ 9223372036854775807) (hneg : ¬ a < 0) :
    Calls Tryd.prog 12 #[.int .i64 a] w fun e w' => e = .returned (.tuple #[.bool false, .int .u64 a]) ∧ w' = w := by
  have h1 : 0 ≤ a := by omega
  go_enter Tryd.func12, Tryd.ntmps12
  go_wp2
  go_ret2
  exact ⟨rfl, rfl⟩

theorem magOf_any (a : Int) (w : World) (a0 : -9223372036854775808 ≤ a) (a1 : a ≤ 9223372036854775807) :
    Calls Tryd.prog 12 #[.int .i64 a] w fun e w' => e = .returned (.tuple #[.bool (decide (a < 0)), .int .u64 (a.natAbs : Int)]) ∧ w' = w := by
  by_cases hneg : a < 0
  · refine (magOf_neg a w a0 hneg).mono ?_
    rintro e w' ⟨rfl, rfl⟩
    rw [decide_eq_true hneg]
    exact ⟨ret_two (by omega), rfl⟩
  · refine (magOf_pos a w a1 hneg).mono ?_
    rintro e w' ⟨rfl, rfl⟩
    rw [decide_eq_false hneg]
    exact ⟨ret_two (by omega), rfl⟩

/-- lineIs at a place where the line of (a, c) stands: it says so, and where the line ends. -/
theorem line_at {w : World} {b off i : Nat} {a c : Int} (H : At w b off i (line a c)) :
    At w b off i (Lib.itoa a ++ 32 :: (Lib.itoa c ++ [10])) ∧ At w b off (i + (Lib.itoa a).length + 1) (Lib.itoa c ++ 10 :: []) :=
  ⟨H, (At.right (l := Lib.itoa a) H).tail⟩

theorem ret_line {x y : Int} (h : x = y) : Ending.returned (.tuple #[.int .i64 x, .bool true]) = .returned (.tuple #[.int .i64 y, .bool true]) := by rw [h]

set_option maxHeartbeats 1000000 in
theorem lineIs_any (b off cap n i : Nat) (a c : Int) (w : World) (hn : n ≤ 1099511627776) (a0 : -9223372036854775808 ≤ a) (a1 : a ≤ 9223372036854775807) (c0 : -9223372036854775808 ≤ c) (c1 : c ≤ 9223372036854775807)
    (H : At w b off i (line a c)) (hr : i + (line a c).length ≤ n) :
    Calls Tryd.prog 8 #[.slice (some ⟨b, off, none⟩) n cap, .int .i64 (i : Int), .int .i64 a, .int .i64 c] w fun e w' =>
      e = .returned (.tuple #[.int .i64 ((i : Int) + ((line a c).length : Int)), .bool true]) ∧ w' = w := by
  obtain ⟨H1, H2⟩ := line_at H
  rw [line_length] at hr ⊢
  have p1 := parse_itoa b off cap n i 32 _ a w hn a0 a1 (by decide) H1 (by omega)
  have p2 := parse_itoa b off cap n (i + (Lib.itoa a).length + 1) 10 _ c w hn c0 c1 (by decide) H2 (by omega)
  have e32 : ((32 : UInt8).toNat : Int) = 32 := rfl
  have e10 : ((10 : UInt8).toNat : Int) = 10 := rfl
  have ei : ((i + (Lib.itoa a).length + 1 : Nat) : Int) = (i : Int) + ((Lib.itoa a).length : Int) + 1 := by omega
  rw [e32] at p1
  rw [e10, ei] at p2
  have q1 := magOf_any a w a0 a1
  have q2 := magOf_any c w c0 c1
  have P1 := Lib.hid p1
  have P2 := Lib.hid p2
  have Q1 := Lib.hid q1
  have Q2 := Lib.hid q2
  clear p1 p2 q1 q2 H H1 H2 e32 e10 ei
  obtain ⟨ba, hba⟩ : ∃ ba, decide (a < 0) = ba := ⟨_, rfl⟩
  obtain ⟨bc, hbc⟩ : ∃ bc, decide (c < 0) = bc := ⟨_, rfl⟩
  go_enter Tryd.func8, Tryd.ntmps8
  go_wp2_with fail
  refine P1.out.mono ?_
  rintro e w' ⟨rfl, rfl⟩
  go_wp2_with fail
  refine Q1.out.mono ?_
  rintro e w' ⟨rfl, rfl⟩
  go_wp2_with fail
  refine P2.out.mono ?_
  rintro e w' ⟨rfl, rfl⟩
  go_wp2_with fail
  refine Q2.out.mono ?_
  rintro e w' ⟨rfl, rfl⟩
  go_wp2
  go_ret2
  exact ⟨ret_line (by omega), rfl⟩
end Go.Proofs.Qxb6619442aDoor
