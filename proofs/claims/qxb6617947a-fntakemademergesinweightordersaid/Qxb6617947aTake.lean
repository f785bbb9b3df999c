import Derived.Test.Qxb6617947aChecked
import Derived.WalkKit
import Derived.WalkSpells
import Derived.WalkLawsBesides
import Derived.Deep.Light
import Derived.Deep.QuietTactic
import Derived.BigQuiet
import Derived.WalkSmall
namespace Go.Proofs.Qxb6617947a
open Go.RowKit

theorem hide {p : Prop} (h : p) : Hid p := h

/-- One cell is written at a block's head, with draws about it. -/
def Stp (w : World) (p : Nat) (v : Value) (w' : World) : Prop := ∃ q1 q2, w' = ((w.drewN q1).setCell ⟨p, 0, none⟩ v).drewN q2

theorem Stp.same {w w' : World} {p : Nat} {v u : Value} (h : Stp w p v w') (hc : w.cell? ⟨p, 0, none⟩ = some u) : w'.cell? ⟨p, 0, none⟩ = some v := by
  obtain ⟨q1, q2, rfl⟩ := h
  exact World.cell?_setCell_same (w.drewN q1) _ _ hc
theorem Stp.other {w w' : World} {p : Nat} {v : Value} (h : Stp w p v w') {b off : Nat} (hb : p ≠ b) : w'.cell? ⟨b, off, none⟩ = w.cell? ⟨b, off, none⟩ := by
  obtain ⟨q1, q2, rfl⟩ := h
  exact World.cell?_setCell_other (w.drewN q1) _ _ _ (by intro e; cases e; exact hb rfl)
theorem Stp.frozen {w w' : World} {p : Nat} {v : Value} (h : Stp w p v w') (a : Addr) : w'.frozen? a = w.frozen? a := by
  obtain ⟨q1, q2, rfl⟩ := h
  exact World.frozen?_setCell (w.drewN q1) _ a _
theorem Stp.below {w w' : World} {p B : Nat} {v : Value} (h : Stp w p v w') (hp : B ≤ p) : Below B w w' := by
  obtain ⟨q1, q2, rfl⟩ := h
  exact below_drewN ((below_drewN (Below.refl B w) q1).setCell (p := ⟨p, 0, none⟩) hp v) q2
theorem Stp.size {w w' : World} {p : Nat} {v : Value} (h : Stp w p v w') : w'.heap.size = w.heap.size := by
  obtain ⟨q1, q2, rfl⟩ := h
  show ((w.drewN q1).setCell ⟨p, 0, none⟩ v).heap.size = w.heap.size
  simp [World.setCell]

theorem ret_node {u : Int} {x y : Int} (h : x = y) : Ending.returned (.tuple #[.int .u64 u, .int .i64 x]) = .returned (.tuple #[.int .u64 u, .int .i64 y]) := by rw [h]

set_option maxHeartbeats 1000000 in
theorem take_sym_all (ps pd pk pw s d made n : Nat) (ks : Int) (w : World) (hs : s < n) (hn : n ≤ 512) (hd : d = made) (hm : made ≤ 512) (cs : w.cell? ⟨ps, 0, none⟩ = some (.int .i64 (s : Int))) (cd : w.cell? ⟨pd, 0, none⟩ = some (.int .i64 (d : Int))) (ck : w.cell? ⟨pk, s, none⟩ = some (.int .u64 ks)) (fs : w.frozen? ⟨ps, 0, none⟩ = false) (hne : ps ≠ pk) :
    Calls Try.prog 22 #[.pointer (some ⟨ps, 0, none⟩), .pointer (some ⟨pd, 0, none⟩), .int .i64 (made : Int), .int .i64 (n : Int), .pointer (some ⟨pk, 0, none⟩), .pointer (some ⟨pw, 0, none⟩)] w fun e w' =>
      e = .returned (.tuple #[.int .u64 (ks / 65536), .int .i64 (s : Int)]) ∧ Stp w ps (.int .i64 ((s : Int) + 1)) w' := by
  subst hd
  have h1 : (s : Int) < (n : Int) := by omega
  have h2 : (s : Int) < 512 := by omega
  have hb : ((d : Int) == (d : Int)) = true := by simp
  go_enter Try.func22, Try.ntmps22
  go_wp2
  go_quiet (fail)
  go_wp2
  have e0 : ((w.drewN nq).setCell ⟨ps, 0, none⟩ (.int .i64 ((s : Int) + 1))).cell? ⟨ps, 0, none⟩ = some (.int .i64 ((s : Int) + 1)) := World.cell?_setCell_same _ _ _ cs
  have e1 : ((w.drewN nq).setCell ⟨ps, 0, none⟩ (.int .i64 ((s : Int) + 1))).cell? ⟨pk, s, none⟩ = some (.int .u64 ks) := (World.cell?_setCell_other _ _ _ _ (by intro h; cases h; exact hne rfl)).trans ck
  obtain ⟨W1, hW1⟩ : ∃ W1, (w.drewN nq).setCell ⟨ps, 0, none⟩ (.int .i64 ((s : Int) + 1)) = W1 := ⟨_, rfl⟩
  rw [hW1] at e0 e1 ⊢
  have HW := hide hW1
  clear hW1 cs cd ck fs
  go_quiet (fail)
  go_wp2
  go_ret2
  exact ⟨rfl, _, _, by rw [HW.out]⟩

set_option maxHeartbeats 1000000 in
theorem take_sym_le (ps pd pk pw s d made n : Nat) (ks wd : Int) (w : World) (hs : s < n) (hn : n ≤ 512) (hd : d < made) (hm : made ≤ 512) (hle : ks / 65536 ≤ wd) (cs : w.cell? ⟨ps, 0, none⟩ = some (.int .i64 (s : Int))) (cd : w.cell? ⟨pd, 0, none⟩ = some (.int .i64 (d : Int))) (ck : w.cell? ⟨pk, s, none⟩ = some (.int .u64 ks)) (cw : w.cell? ⟨pw, d, none⟩ = some (.int .u64 wd)) (fs : w.frozen? ⟨ps, 0, none⟩ = false) (hne : ps ≠ pk) :
    Calls Try.prog 22 #[.pointer (some ⟨ps, 0, none⟩), .pointer (some ⟨pd, 0, none⟩), .int .i64 (made : Int), .int .i64 (n : Int), .pointer (some ⟨pk, 0, none⟩), .pointer (some ⟨pw, 0, none⟩)] w fun e w' =>
      e = .returned (.tuple #[.int .u64 (ks / 65536), .int .i64 (s : Int)]) ∧ Stp w ps (.int .i64 ((s : Int) + 1)) w' := by
  have h1 : (s : Int) < (n : Int) := by omega
  have h2 : (s : Int) < 512 := by omega
  have h3 : (d : Int) < 512 := by omega
  have hb : ((d : Int) == (made : Int)) = false := by rw [beq_eq_false_iff_ne]; omega
  go_enter Try.func22, Try.ntmps22
  go_wp2
  go_quiet (fail)
  go_wp2
  have e0 : ((w.drewN nq).setCell ⟨ps, 0, none⟩ (.int .i64 ((s : Int) + 1))).cell? ⟨ps, 0, none⟩ = some (.int .i64 ((s : Int) + 1)) := World.cell?_setCell_same _ _ _ cs
  have e1 : ((w.drewN nq).setCell ⟨ps, 0, none⟩ (.int .i64 ((s : Int) + 1))).cell? ⟨pk, s, none⟩ = some (.int .u64 ks) := (World.cell?_setCell_other _ _ _ _ (by intro h; cases h; exact hne rfl)).trans ck
  obtain ⟨W1, hW1⟩ : ∃ W1, (w.drewN nq).setCell ⟨ps, 0, none⟩ (.int .i64 ((s : Int) + 1)) = W1 := ⟨_, rfl⟩
  rw [hW1] at e0 e1 ⊢
  have HW := hide hW1
  clear hW1 cs cd ck cw fs
  go_quiet (fail)
  go_wp2
  go_ret2
  exact ⟨rfl, _, _, by rw [HW.out]⟩

set_option maxHeartbeats 1000000 in
theorem take_node_gt (ps pd pk pw s d made n : Nat) (ks wd : Int) (w : World) (hs : s < n) (hn : n ≤ 512) (hd : d < made) (hm : made ≤ 512) (hgt : wd < ks / 65536) (cs : w.cell? ⟨ps, 0, none⟩ = some (.int .i64 (s : Int))) (cd : w.cell? ⟨pd, 0, none⟩ = some (.int .i64 (d : Int))) (ck : w.cell? ⟨pk, s, none⟩ = some (.int .u64 ks)) (cw : w.cell? ⟨pw, d, none⟩ = some (.int .u64 wd)) (fd : w.frozen? ⟨pd, 0, none⟩ = false) (hne : pd ≠ pw) :
    Calls Try.prog 22 #[.pointer (some ⟨ps, 0, none⟩), .pointer (some ⟨pd, 0, none⟩), .int .i64 (made : Int), .int .i64 (n : Int), .pointer (some ⟨pk, 0, none⟩), .pointer (some ⟨pw, 0, none⟩)] w fun e w' =>
      e = .returned (.tuple #[.int .u64 wd, .int .i64 ((n : Int) + (d : Int))]) ∧ Stp w pd (.int .i64 ((d : Int) + 1)) w' := by
  have h1 : (s : Int) < (n : Int) := by omega
  have h2 : (s : Int) < 512 := by omega
  have h3 : (d : Int) < 512 := by omega
  have hb : ((d : Int) == (made : Int)) = false := by rw [beq_eq_false_iff_ne]; omega
  have hle : decide (ks / 65536 ≤ wd) = false := by rw [decide_eq_false_iff_not]; omega
  go_enter Try.func22, Try.ntmps22
  go_wp2
  go_quiet (fail)
  go_wp2
  have e0 : ((w.drewN nq).setCell ⟨pd, 0, none⟩ (.int .i64 ((d : Int) + 1))).cell? ⟨pd, 0, none⟩ = some (.int .i64 ((d : Int) + 1)) := World.cell?_setCell_same _ _ _ cd
  have e1 : ((w.drewN nq).setCell ⟨pd, 0, none⟩ (.int .i64 ((d : Int) + 1))).cell? ⟨pw, d, none⟩ = some (.int .u64 wd) := (World.cell?_setCell_other _ _ _ _ (by intro h; cases h; exact hne rfl)).trans cw
  obtain ⟨W1, hW1⟩ : ∃ W1, (w.drewN nq).setCell ⟨pd, 0, none⟩ (.int .i64 ((d : Int) + 1)) = W1 := ⟨_, rfl⟩
  rw [hW1] at e0 e1 ⊢
  have HW := hide hW1
  clear hW1 cs cd ck cw fd
  go_quiet (fail)
  go_wp2
  go_ret2
  exact ⟨ret_node (by omega), _, _, by rw [HW.out]⟩

set_option maxHeartbeats 1000000 in
theorem take_node_all (ps pd pk pw s d made n : Nat) (wd : Int) (w : World) (hs : s = n) (hn : n ≤ 512) (hd : d < made) (hm : made ≤ 512) (cs : w.cell? ⟨ps, 0, none⟩ = some (.int .i64 (s : Int))) (cd : w.cell? ⟨pd, 0, none⟩ = some (.int .i64 (d : Int))) (cw : w.cell? ⟨pw, d, none⟩ = some (.int .u64 wd)) (fd : w.frozen? ⟨pd, 0, none⟩ = false) (hne : pd ≠ pw) :
    Calls Try.prog 22 #[.pointer (some ⟨ps, 0, none⟩), .pointer (some ⟨pd, 0, none⟩), .int .i64 (made : Int), .int .i64 (n : Int), .pointer (some ⟨pk, 0, none⟩), .pointer (some ⟨pw, 0, none⟩)] w fun e w' =>
      e = .returned (.tuple #[.int .u64 wd, .int .i64 ((n : Int) + (d : Int))]) ∧ Stp w pd (.int .i64 ((d : Int) + 1)) w' := by
  have h1 : decide ((s : Int) < (n : Int)) = false := by rw [decide_eq_false_iff_not]; omega
  have h3 : (d : Int) < 512 := by omega
  go_enter Try.func22, Try.ntmps22
  go_wp2
  go_quiet (fail)
  go_wp2
  have e0 : ((w.drewN nq).setCell ⟨pd, 0, none⟩ (.int .i64 ((d : Int) + 1))).cell? ⟨pd, 0, none⟩ = some (.int .i64 ((d : Int) + 1)) := World.cell?_setCell_same _ _ _ cd
  have e1 : ((w.drewN nq).setCell ⟨pd, 0, none⟩ (.int .i64 ((d : Int) + 1))).cell? ⟨pw, d, none⟩ = some (.int .u64 wd) := (World.cell?_setCell_other _ _ _ _ (by intro h; cases h; exact hne rfl)).trans cw
  obtain ⟨W1, hW1⟩ : ∃ W1, (w.drewN nq).setCell ⟨pd, 0, none⟩ (.int .i64 ((d : Int) + 1)) = W1 := ⟨_, rfl⟩
  rw [hW1] at e0 e1 ⊢
  have HW := hide hW1
  clear hW1 cs cd cw fd
  go_quiet (fail)
  go_wp2
  go_ret2
  exact ⟨ret_node (by omega), _, _, by rw [HW.out]⟩
end Go.Proofs.Qxb6617947a
