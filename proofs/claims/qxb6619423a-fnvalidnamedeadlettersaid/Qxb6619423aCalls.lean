import Derived.Test.Qxb6619423aChecked
import Derived.WalkKit
import Derived.WalkSpells
import Derived.WalkLawsBesides
import Derived.Outline
import Derived.Deep.Light
import Derived.Lib.Strings
import Derived.Lib.IndexBytes
namespace Go.Proofs.Qxb6619423a
open Go.RowKit

theorem ret_bool {a b : Bool} (h : a = b) : Ending.returned (.bool a) = .returned (.bool b) := by rw [h]

/-! ### Plain: name bytes -/
def nbI (n : Int) : Bool :=
  (decide (97 ≤ n) && decide (n ≤ 122)) || (decide (65 ≤ n) && decide (n ≤ 90)) || (decide (48 ≤ n) && decide (n ≤ 57)) || decide (n = 46) || decide (n = 95) || decide (n = 45)

theorem nbI_iff (n : Int) : nbI n = true ↔ ((97 ≤ n ∧ n ≤ 122) ∨ (65 ≤ n ∧ n ≤ 90) ∨ (48 ≤ n ∧ n ≤ 57) ∨ n = 46 ∨ n = 95 ∨ n = 45) := by
  unfold nbI; simp [or_assoc]

theorem nbI_false {n : Int} (h : ¬ ((97 ≤ n ∧ n ≤ 122) ∨ (65 ≤ n ∧ n ≤ 90) ∨ (48 ≤ n ∧ n ≤ 57) ∨ n = 46 ∨ n = 95 ∨ n = 45)) : nbI n = false := by
  rw [Bool.eq_false_iff]; intro e; exact h ((nbI_iff n).1 e)

def nbs (l : List UInt8) : Bool := l.all fun c => nbI c.toNat

theorem take_snoc (s : ByteArray) (k : Nat) (h : k < s.size) : s.data.toList.take (k + 1) = s.data.toList.take k ++ [s[k]] := by
  rw [List.take_succ_eq_append_getElem (by simpa using h)]; rfl

theorem nbs_snoc (l : List UInt8) (c : UInt8) : nbs (l ++ [c]) = (nbs l && nbI c.toNat) := by
  simp [nbs, List.all_append]

theorem nbs_of_bad (s : ByteArray) (k : Nat) (h : k < s.size) (hb : nbI s[k].toNat = false) : nbs s.data.toList = false := by
  rw [Bool.eq_false_iff]
  intro e
  have := List.all_eq_true.1 e s[k] (by rw [show s[k] = s.data.toList[k]'(by simpa using h) from rfl]; exact List.getElem_mem _)
  rw [hb] at this; cases this

set_option maxHeartbeats 400000 in
theorem nameByte_any (c : UInt8) (w : World)  :
    Calls Try.prog 12 #[.int .u8 c.toNat] w fun e w' => e = .returned (.bool (nbI c.toNat)) ∧ w' = w := by
  go_enter Try.func12, Try.ntmps12
  go_wp2
  all_goals go_ret
  all_goals refine ⟨ret_bool ?_, rfl⟩
  all_goals go_light
  all_goals (rw [Bool.eq_iff_iff, nbI_iff]; simp <;> omega)

set_option maxHeartbeats 400000 in
theorem allBytes_any (s : ByteArray) (w : World) (hs : s.size ≤ maxLen) :
    Calls Try.prog 6 #[.string s] w fun e w' => e = .returned (.bool (nbs s.data.toList)) ∧ w' = w := by
  unfold maxLen at hs
  go_enter Try.func6, Try.ntmps6
  go_wp2
  go_loop [3] (fun i => ∃ k : Nat, k ≤ s.size ∧ i = .int .i64 k ∧ nbs (s.data.toList.take k) = true) (fun i => s.size - (intOf i).toNat)
  case atStart => exact ⟨0, Nat.zero_le _, rfl, by simp [nbs]⟩
  case round =>
    obtain ⟨k, hk, rfl, hn⟩ := hrel
    have HN : Hid (nbs (s.data.toList.take k) = true) := hn
    clear hn
    by_cases hlt : k < s.size
    · have HS : Hid (nbs (s.data.toList.take (k + 1)) = (nbs (s.data.toList.take k) && nbI s[k].toNat)) := by rw [take_snoc s k hlt, nbs_snoc]; exact rfl
      by_cases hb : nbI s[k].toNat = true
      · have HB : Hid (nbI s[k].toNat = true) := hb
        go_wp2_with (go_at_call 12; refine (nameByte_any _ _).mono ?_; rintro e w' ⟨rfl, rfl⟩)
        go_round
        case rel => exact ⟨k + 1, by omega, by go_num, by rw [HS.out, HN.out, HB.out]; rfl⟩
        case measure => simp [intOf]; omega
      · have hb : nbI s[k].toNat = false := by simpa using hb
        have HB : Hid (nbI s[k].toNat = false) := hb
        go_wp2_with (go_at_call 12; refine (nameByte_any _ _).mono ?_; rintro e w' ⟨rfl, rfl⟩)
        go_ret
        exact ⟨ret_bool (nbs_of_bad s k hlt HB.out).symm, rfl⟩
    · go_wp2
      go_ret
      refine ⟨ret_bool ?_, rfl⟩
      rw [← HN.out, List.take_of_length_le (by simp; omega)]

set_option maxHeartbeats 400000 in
theorem bytesClosed_any (s : ByteArray) (w : World) (hs : s.size ≤ maxLen) :
    Calls Try.prog 5 #[.string s] w fun e w' => e = .returned (.bool (decide (s.size ≤ 1048576))) ∧ w' = w := by
  unfold maxLen at hs
  by_cases h : s.size ≤ 1048576
  all_goals
    go_enter Try.func5, Try.ntmps5
    go_wp2
    go_ret
    exact ⟨ret_bool (by simp [h]), rfl⟩

set_option maxHeartbeats 400000 in
theorem bytesDead_any (s : ByteArray) (w : World) (hs : s.size ≤ maxLen) :
    Calls Try.prog 9 #[.string s] w fun e w' => e = .returned (.bool (decide (s.size ≤ 1048576))) ∧ w' = w := by
  unfold maxLen at hs
  by_cases h : s.size ≤ 1048576
  all_goals
    go_enter Try.func9, Try.ntmps9
    go_wp2
    go_ret
    exact ⟨ret_bool (by simp [h]), rfl⟩

/-! ### The suffix -/
def sfxB (s : ByteArray) : Bool := decide (4 ≤ s.size) && ((s.extract (s.size - 4) s.size).toList == [45, 100, 108, 113])

theorem sfxB_long {s : ByteArray} (h : 4 ≤ s.size) : ((s.extract (s.size - 4) s.size).toList == [45, 100, 108, 113]) = sfxB s := by simp [sfxB, h]
theorem sfxB_short {s : ByteArray} (h : ¬ 4 ≤ s.size) : false = sfxB s := by simp [sfxB, h]
theorem sfxB_size {s : ByteArray} (h : sfxB s = true) : 4 ≤ s.size := by simp [sfxB] at h; exact h.1

set_option maxHeartbeats 400000 in
theorem hasSuffix_any (s : ByteArray) (w : World) (hs : s.size ≤ maxLen) :
    Calls Try.prog 15 #[.string s, .string { data := #[45, 100, 108, 113] }] w fun e w' => e = .returned (.bool (sfxB s)) ∧ w' = w := by
  unfold maxLen at hs
  by_cases h : 4 ≤ s.size
  · go_enter Try.func15, Try.ntmps15
    go_wp2
    go_ret
    exact ⟨ret_bool (sfxB_long h), rfl⟩
  · go_enter Try.func15, Try.ntmps15
    go_wp2
    go_ret
    exact ⟨ret_bool (sfxB_short h), rfl⟩

set_option maxHeartbeats 400000 in
theorem hasSuffixS_any (s : ByteArray) (w : World) (hs : s.size ≤ maxLen) :
    Calls Try.prog 13 #[.string s, .string { data := #[45, 100, 108, 113] }] w fun e w' => e = .returned (.bool (sfxB s)) ∧ w' = w := by
  go_enter Try.func13, Try.ntmps13
  go_wp2_with (go_at_call 15; refine (hasSuffix_any _ _ hs).mono ?_; rintro e w' ⟨rfl, rfl⟩)
  go_ret
  exact ⟨rfl, rfl⟩

set_option maxHeartbeats 400000 in
theorem isDead_any (s : ByteArray) (w : World) (hs : s.size ≤ maxLen) :
    Calls Try.prog 10 #[.string s] w fun e w' => e = .returned (.bool (sfxB s)) ∧ w' = w := by
  go_enter Try.func10, Try.ntmps10
  go_wp2_with (go_at_call 13; refine (hasSuffixS_any _ _ hs).mono ?_; rintro e w' ⟨rfl, rfl⟩)
  go_ret
  exact ⟨rfl, rfl⟩

def src (s : ByteArray) : ByteArray := s.extract 0 (s.size - 4)

set_option maxHeartbeats 400000 in
theorem trim_hit (s : ByteArray) (w : World) (hs : s.size ≤ maxLen) (h : sfxB s = true) :
    Calls Try.prog 16 #[.string s, .string { data := #[45, 100, 108, 113] }] w fun e w' => e = .returned (.string (src s)) ∧ w' = w := by
  have h4 := sfxB_size h
  have hs' := hs
  unfold maxLen at hs'
  go_enter Try.func16, Try.ntmps16
  go_wp2_with (go_at_call 15; refine (hasSuffix_any _ _ hs).mono ?_; rintro e w' ⟨rfl, rfl⟩)
  go_ret
  exact ⟨rfl, rfl⟩

set_option maxHeartbeats 400000 in
theorem trimS_hit (s : ByteArray) (w : World) (hs : s.size ≤ maxLen) (h : sfxB s = true) :
    Calls Try.prog 14 #[.string s, .string { data := #[45, 100, 108, 113] }] w fun e w' => e = .returned (.string (src s)) ∧ w' = w := by
  go_enter Try.func14, Try.ntmps14
  go_wp2_with (go_at_call 16; refine (trim_hit _ _ hs h).mono ?_; rintro e w' ⟨rfl, rfl⟩)
  go_ret
  exact ⟨rfl, rfl⟩

set_option maxHeartbeats 400000 in
theorem source_hit (s t : ByteArray) (w : World) (hs : s.size ≤ maxLen) (h : sfxB s = true) (ht : src s = t) :
    Calls Try.prog 11 #[.string s] w fun e w' => e = .returned (.string t) ∧ w' = w := by
  subst ht
  go_enter Try.func11, Try.ntmps11
  go_wp2_with (go_at_call 14; refine (trimS_hit _ _ hs h).mono ?_; rintro e w' ⟨rfl, rfl⟩)
  go_ret
  exact ⟨rfl, rfl⟩

theorem drop4 (l : List UInt8) (h : 4 ≤ l.length) : l.drop (l.length - 4) = [l[l.length - 4], l[l.length - 3], l[l.length - 2], l[l.length - 1]] := by
  apply List.ext_getElem
  · simp; omega
  · intro i h1 h2
    simp at h2
    rw [List.getElem_drop]
    have : i = 0 ∨ i = 1 ∨ i = 2 ∨ i = 3 := by omega
    rcases this with rfl | rfl | rfl | rfl <;> simp <;> congr 1 <;> omega

theorem extract_end (s : ByteArray) (a : Nat) : (s.extract a s.size).toList = s.data.toList.drop a := by
  rw [Lib.toList_data, Lib.extract_to_end]

theorem drop4' (s : ByteArray) (h : 4 ≤ s.size) : s.data.toList.drop (s.size - 4) = [s[s.size - 4], s[s.size - 3], s[s.size - 2], s[s.size - 1]] :=
  drop4 s.data.toList h

theorem sfxB_iff (s : ByteArray) (h : 4 ≤ s.size) : sfxB s = true ↔ ((s[s.size - 4].toNat : Int) = 45 ∧ (s[s.size - 3].toNat : Int) = 100 ∧ (s[s.size - 2].toNat : Int) = 108 ∧ (s[s.size - 1].toNat : Int) = 113) := by
  rw [← sfxB_long h, extract_end, drop4' s h]
  simp only [beq_iff_eq, List.cons.injEq, and_true, ← UInt8.toNat_inj]
  simp
  omega

set_option maxHeartbeats 400000 in
theorem endsDlq_any (s : ByteArray) (w : World) (hs : s.size ≤ maxLen) (h : 4 ≤ s.size) :
    Calls Try.prog 7 #[.string s] w fun e w' => e = .returned (.bool (sfxB s)) ∧ w' = w := by
  unfold maxLen at hs
  go_enter Try.func7, Try.ntmps7
  go_wp2
  all_goals go_ret
  all_goals refine ⟨ret_bool ?_, rfl⟩
  all_goals go_light
  all_goals (rw [Bool.eq_iff_iff, sfxB_iff s h]; simp <;> omega)

end Go.Proofs.Qxb6619423a
