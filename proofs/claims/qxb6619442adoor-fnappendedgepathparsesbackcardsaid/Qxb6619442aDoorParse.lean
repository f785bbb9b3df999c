import Derived.Test.Qxb6619442aDoorEdge
import Derived.WalkSpells
import Derived.WalkLawsBesides
import Derived.Deep.Light
namespace Go.Proofs.Qxb6619442aDoor
open Go.Shelf Go.RowKit

/-- The digits of u from place s on, the byte 'stop' behind them. -/
structure Digs (w : World) (b off s n u : Nat) (stop : Nat) : Prop where
  cell : ∀ j (h : j < (Lib.decDigits u).length), w.cell? ⟨b, off + (s + j), none⟩ = some (.int .u8 ((Lib.decDigits u)[j].toNat : Int))
  last : w.cell? ⟨b, off + (s + (Lib.decDigits u).length), none⟩ = some (.int .u8 (stop : Int))
  room : s + (Lib.decDigits u).length < n

theorem int_u64 {a b : Int} (h : a = b) : Value.int .u64 a = .int .u64 b := by rw [h]

set_option maxHeartbeats 2000000 in
theorem parse_pos (b off cap n i u stop : Nat) (w : World) (hn : n ≤ 1099511627776) (hu : u ≤ 18446744073709551615) (hst : stop ≤ 47) (H : Digs w b off i n u stop) :
    Calls Tryd.prog 11 #[.slice (some ⟨b, off, none⟩) n cap, .int .i64 (i : Int), .int .u8 (stop : Int)] w fun e w' =>
      e = .returned (.tuple #[.bool false, .int .u64 (u : Int), .int .i64 ((i : Int) + ((Lib.decDigits u).length : Int) + 1), .bool true]) ∧ w' = w := by
  obtain ⟨m, hm⟩ : ∃ m, (Lib.decDigits u).length = m := ⟨_, rfl⟩
  have hm1 : 1 ≤ m := by rw [← hm]; exact decDigits_pos u
  have hroom : i + m < n := by rw [← hm]; exact H.room
  have hlast : w.cell? ⟨b, off + (i + m), none⟩ = some (.int .u8 (stop : Int)) := by rw [← hm]; exact H.last
  -- the first digit
  obtain ⟨c0, hc0, hd0, he0⟩ : ∃ c : Nat, w.cell? ⟨b, off + i, none⟩ = some (.int .u8 (c : Int)) ∧ (48 ≤ c ∧ c ≤ 57) ∧ (2 ≤ m → c ≠ 48) := by
    have h1 : 0 < (Lib.decDigits u).length := by omega
    refine ⟨_, H.cell 0 h1, decDigits_digits u _ (List.getElem_mem h1), fun h2 => ?_⟩
    exact head_get _ h1 (by omega) (decDigits_head u)
  have hcell := H.cell
  have HC : Hid (∀ j (h : j < (Lib.decDigits u).length), w.cell? ⟨b, off + (i + j), none⟩ = some (.int .u8 ((Lib.decDigits u)[j].toNat : Int))) := hcell
  clear hcell H
  have HM : Hid ((Lib.decDigits u).length = m) := hm
  rw [hm]
  clear hm
  have hi0 : (i : Int) < (n : Int) := by omega
  have hne : ((c0 : Int) == 45) = false := by rw [beq_eq_false_iff_ne]; omega
  go_enter Tryd.func11, Tryd.ntmps11
  go_wp2
  go_loop [1, 12] (fun ti tm => ∃ p v : Nat, i ≤ p ∧ p ≤ i + m ∧ ti = .int .i64 (p : Int) ∧ tm = .int .u64 (v : Int) ∧ v = valD ((Lib.decDigits u).take (p - i))) (fun ti _ => i + m - (intOf ti).toNat)
  case atStart => exact ⟨i, 0, Nat.le_refl _, by omega, rfl, rfl, by simp [valD]⟩
  case round =>
    obtain ⟨p, v, hp1, hp2, rfl, rfl, hv⟩ := hrel
    have HV : Hid (v = valD ((Lib.decDigits u).take (p - i))) := hv
    clear hv
    by_cases hlt : p < i + m
    · have hj : p - i < (Lib.decDigits u).length := by rw [HM.out]; omega
      obtain ⟨c, hc, hd⟩ : ∃ c : Nat, (Lib.decDigits u)[p - i].toNat = c ∧ (48 ≤ c ∧ c ≤ 57) := ⟨_, rfl, decDigits_digits u _ (List.getElem_mem hj)⟩
      have hcp : w.cell? ⟨b, off + p, none⟩ = some (.int .u8 (c : Int)) := by
        have := HC.out (p - i) hj
        rw [hc, show i + (p - i) = p by omega] at this
        exact this
      have hnx : valD ((Lib.decDigits u).take (p + 1 - i)) = v * 10 + (c - 48) := by
        rw [show p + 1 - i = (p - i) + 1 by omega, valD_take_succ _ _ hj, hc, ← HV.out]
      have hle : v * 10 + (c - 48) ≤ u := by
        rw [← hnx]
        have := valD_take_le (Lib.decDigits u) (p + 1 - i)
        rwa [decDigits_val] at this
      have HN : Hid (valD ((Lib.decDigits u).take (p + 1 - i)) = v * 10 + (c - 48)) := hnx
      clear hnx hc
      have hpn : (p : Int) < (n : Int) := by omega
      have g1 : (48 : Int) ≤ (c : Int) := by omega
      have g2 : (c : Int) ≤ 57 := by omega
      have g3 : (v : Int) * 10 + ((c : Int) - 48) ≤ 18446744073709551615 := by omega
      have g4 : (v : Int) ≤ (18446744073709551615 - ((c : Int) - 48)) / 10 := by omega
      go_wp2
      go_light
      refine ⟨⟨p + 1, v * 10 + (c - 48), by omega, by omega, by go_num, int_u64 (by omega), HN.out.symm⟩, ?_⟩
      simp [intOf]; omega
    · have hlp : w.cell? ⟨b, off + p, none⟩ = some (.int .u8 (stop : Int)) := by
        rw [show p = i + m by omega]; exact hlast
      have hvu : v = u := by
        rw [HV.out, List.take_of_length_le (by rw [HM.out]; omega), decDigits_val]
      have HP : Hid (p = i + m) := by show p = i + m; omega
      have HU : Hid (v = u) := hvu
      clear hvu hlast
      have hpn : (p : Int) < (n : Int) := by omega
      have hpi : ((p : Int) == (i : Int)) = false := by rw [beq_eq_false_iff_ne]; omega
      have hs1 : ¬ (48 : Int) ≤ (stop : Int) := by omega
      by_cases hm2 : 2 ≤ m
      · have hc48 : ((c0 : Int) == 48) = false := by rw [beq_eq_false_iff_ne]; have := he0 hm2; omega
        have h1 : (1 : Int) < (p : Int) - (i : Int) := by omega
        clear he0
        go_wp2
        refine bodyPost_ret (v := .tuple #[.bool false, .int .u64 (v : Int), .int .i64 ((p : Int) + 1), .bool true]) (by simp [results, Tryd.results11, go_sem]) rfl ?_
        have := HP.out
        have := HU.out
        subst p v
        exact ⟨by simp, rfl⟩
      · have h1 : ¬ (1 : Int) < (p : Int) - (i : Int) := by omega
        clear he0
        go_wp2
        refine bodyPost_ret (v := .tuple #[.bool false, .int .u64 (v : Int), .int .i64 ((p : Int) + 1), .bool true]) (by simp [results, Tryd.results11, go_sem]) rfl ?_
        have := HP.out
        have := HU.out
        subst p v
        exact ⟨by simp, rfl⟩
set_option maxHeartbeats 2000000 in
theorem parse_neg (b off cap n i u stop : Nat) (w : World) (hn : n ≤ 1099511627776) (hu : u ≤ 18446744073709551615) (hst : stop ≤ 47) (hu1 : 1 ≤ u) (hm45 : w.cell? ⟨b, off + i, none⟩ = some (.int .u8 45)) (H : Digs w b off (i + 1) n u stop) :
    Calls Tryd.prog 11 #[.slice (some ⟨b, off, none⟩) n cap, .int .i64 (i : Int), .int .u8 (stop : Int)] w fun e w' =>
      e = .returned (.tuple #[.bool true, .int .u64 (u : Int), .int .i64 ((i : Int) + 1 + ((Lib.decDigits u).length : Int) + 1), .bool true]) ∧ w' = w := by
  obtain ⟨m, hm⟩ : ∃ m, (Lib.decDigits u).length = m := ⟨_, rfl⟩
  have hm1 : 1 ≤ m := by rw [← hm]; exact decDigits_pos u
  have hroom : i + 1 + m < n := by rw [← hm]; exact H.room
  have hlast : w.cell? ⟨b, off + (i + 1 + m), none⟩ = some (.int .u8 (stop : Int)) := by rw [← hm]; exact H.last
  -- the first digit
  obtain ⟨c0, hc0, hd0, he0⟩ : ∃ c : Nat, w.cell? ⟨b, off + (i + 1), none⟩ = some (.int .u8 (c : Int)) ∧ (48 ≤ c ∧ c ≤ 57) ∧ (2 ≤ m → c ≠ 48) := by
    have h1 : 0 < (Lib.decDigits u).length := by omega
    refine ⟨_, H.cell 0 h1, decDigits_digits u _ (List.getElem_mem h1), fun h2 => ?_⟩
    exact head_get _ h1 (by omega) (decDigits_head u)
  have hcell := H.cell
  have HC : Hid (∀ j (h : j < (Lib.decDigits u).length), w.cell? ⟨b, off + (i + 1 + j), none⟩ = some (.int .u8 ((Lib.decDigits u)[j].toNat : Int))) := hcell
  clear hcell H
  have HM : Hid ((Lib.decDigits u).length = m) := hm
  rw [hm]
  clear hm
  have hi0 : (i : Int) < (n : Int) := by omega
  have hi1 : (i : Int) + 1 < (n : Int) := by omega
  go_enter Tryd.func11, Tryd.ntmps11
  go_wp2
  go_loop [1, 12] (fun ti tm => ∃ p v : Nat, i + 1 ≤ p ∧ p ≤ i + 1 + m ∧ ti = .int .i64 (p : Int) ∧ tm = .int .u64 (v : Int) ∧ v = valD ((Lib.decDigits u).take (p - (i + 1)))) (fun ti _ => i + 1 + m - (intOf ti).toNat)
  case atStart => exact ⟨i + 1, 0, Nat.le_refl _, by omega, rfl, rfl, by simp [valD]⟩
  case round =>
    obtain ⟨p, v, hp1, hp2, rfl, rfl, hv⟩ := hrel
    have HV : Hid (v = valD ((Lib.decDigits u).take (p - (i + 1)))) := hv
    clear hv
    by_cases hlt : p < i + 1 + m
    · have hj : p - (i + 1) < (Lib.decDigits u).length := by rw [HM.out]; omega
      obtain ⟨c, hc, hd⟩ : ∃ c : Nat, (Lib.decDigits u)[p - (i + 1)].toNat = c ∧ (48 ≤ c ∧ c ≤ 57) := ⟨_, rfl, decDigits_digits u _ (List.getElem_mem hj)⟩
      have hcp : w.cell? ⟨b, off + p, none⟩ = some (.int .u8 (c : Int)) := by
        have := HC.out (p - (i + 1)) hj
        rw [hc, show i + 1 + (p - (i + 1)) = p by omega] at this
        exact this
      have hnx : valD ((Lib.decDigits u).take (p + 1 - (i + 1))) = v * 10 + (c - 48) := by
        rw [show p + 1 - (i + 1) = (p - (i + 1)) + 1 by omega, valD_take_succ _ _ hj, hc, ← HV.out]
      have hle : v * 10 + (c - 48) ≤ u := by
        rw [← hnx]
        have := valD_take_le (Lib.decDigits u) (p + 1 - (i + 1))
        rwa [decDigits_val] at this
      have HN : Hid (valD ((Lib.decDigits u).take (p + 1 - (i + 1))) = v * 10 + (c - 48)) := hnx
      clear hnx hc
      have hpn : (p : Int) < (n : Int) := by omega
      have g1 : (48 : Int) ≤ (c : Int) := by omega
      have g2 : (c : Int) ≤ 57 := by omega
      have g3 : (v : Int) * 10 + ((c : Int) - 48) ≤ 18446744073709551615 := by omega
      have g4 : (v : Int) ≤ (18446744073709551615 - ((c : Int) - 48)) / 10 := by omega
      go_wp2
      go_light
      refine ⟨⟨p + 1, v * 10 + (c - 48), by omega, by omega, by go_num, int_u64 (by omega), HN.out.symm⟩, ?_⟩
      simp [intOf]; omega
    · have hlp : w.cell? ⟨b, off + p, none⟩ = some (.int .u8 (stop : Int)) := by
        rw [show p = i + 1 + m by omega]; exact hlast
      have hvu : v = u := by
        rw [HV.out, List.take_of_length_le (by rw [HM.out]; omega), decDigits_val]
      have HP : Hid (p = i + 1 + m) := by show p = i + 1 + m; omega
      have HU : Hid (v = u) := hvu
      have hv0 : ((v : Int) == 0) = false := by rw [beq_eq_false_iff_ne]; omega
      clear hvu hlast
      have hpn : (p : Int) < (n : Int) := by omega
      have hpi : ((p : Int) == (i : Int) + 1) = false := by rw [beq_eq_false_iff_ne]; omega
      have hs1 : ¬ (48 : Int) ≤ (stop : Int) := by omega
      by_cases hm2 : 2 ≤ m
      · have hc48 : ((c0 : Int) == 48) = false := by rw [beq_eq_false_iff_ne]; have := he0 hm2; omega
        have h1 : (1 : Int) < (p : Int) - ((i : Int) + 1) := by omega
        clear he0
        go_wp2
        refine bodyPost_ret (v := .tuple #[.bool true, .int .u64 (v : Int), .int .i64 ((p : Int) + 1), .bool true]) (by simp [results, Tryd.results11, go_sem]) rfl ?_
        have := HP.out
        have := HU.out
        subst p v
        exact ⟨by simp, rfl⟩
      · have h1 : ¬ (1 : Int) < (p : Int) - ((i : Int) + 1) := by omega
        clear he0
        go_wp2
        refine bodyPost_ret (v := .tuple #[.bool true, .int .u64 (v : Int), .int .i64 ((p : Int) + 1), .bool true]) (by simp [results, Tryd.results11, go_sem]) rfl ?_
        have := HP.out
        have := HU.out
        subst p v
        exact ⟨by simp, rfl⟩
end Go.Proofs.Qxb6619442aDoor
