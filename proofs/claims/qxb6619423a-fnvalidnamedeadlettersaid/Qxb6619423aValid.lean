import Derived.Test.Qxb6619423aCalls
namespace Go.Proofs.Qxb6619423a
open Go.RowKit

theorem size_ne_empty {s : ByteArray} (h0 : 1 ≤ s.size) : s ≠ ByteArray.empty := by
  intro e; rw [e] at h0; simp at h0

set_option maxHeartbeats 1000000 in
theorem valid_short (s : ByteArray) (w : World) (h0 : 1 ≤ s.size) (h1 : s.size ≤ 128) :
    Calls Try.prog 8 #[.string s] w fun e w' => e = .returned (.bool (nbs s.data.toList)) ∧ w' = w := by
  have hz : ((s.size : Int) == 0) = false := by rw [beq_eq_false_iff_ne]; omega
  have hz2 : s ≠ ByteArray.empty := size_ne_empty h0
  go_enter Try.func8, Try.ntmps8
  go_wp2
  go_loop [3] (fun i => ∃ k : Nat, k ≤ s.size ∧ i = .int .i64 k ∧ nbs (s.data.toList.take k) = true) (fun i => s.size - (intOf i).toNat)
  case atStart => exact ⟨0, Nat.zero_le _, rfl, by simp [nbs]⟩
  case round =>
    obtain ⟨k, hk, rfl, hn⟩ := hrel
    have HN : Hid (nbs (s.data.toList.take k) = true) := hn
    clear hn
    by_cases hlt : k < s.size
    · have HS : Hid (nbs (s.data.toList.take (k + 1)) = (nbs (s.data.toList.take k) && nbI s[k].toNat)) := by rw [take_snoc s k hlt, nbs_snoc]; exact rfl
      go_wp2
      all_goals first
        | (go_ret
           refine ⟨ret_bool (nbs_of_bad s k hlt (nbI_false ?_)).symm, rfl⟩
           go_light
           simp only [beq_eq_false_iff_ne] at *
           omega)
        | (go_light
           have hb : nbI s[k].toNat = true := by
             rw [nbI_iff]
             simp only [beq_iff_eq, beq_eq_false_iff_ne] at *
             omega
           refine ⟨⟨k + 1, by omega, by go_num, by rw [HS.out, HN.out, hb]; rfl⟩, ?_⟩
           simp [intOf]; omega)
    · go_wp2
      go_ret
      refine ⟨ret_bool ?_, rfl⟩
      rw [← HN.out, List.take_of_length_le (by simp; omega)]

set_option maxHeartbeats 400000 in
theorem valid_empty (w : World) :
    Calls Try.prog 8 #[.string ByteArray.empty] w fun e w' => e = .returned (.bool false) ∧ w' = w := by
  go_enter Try.func8, Try.ntmps8
  go_wp2
  go_ret
  exact ⟨rfl, rfl⟩

set_option maxHeartbeats 400000 in
theorem valid_miss (s : ByteArray) (w : World) (hs : s.size ≤ maxLen) (h1 : 128 < s.size) (hf : sfxB s = false) :
    Calls Try.prog 8 #[.string s] w fun e w' => e = .returned (.bool false) ∧ w' = w := by
  have hs' := hs
  unfold maxLen at hs'
  have hz : ((s.size : Int) == 0) = false := by rw [beq_eq_false_iff_ne]; omega
  have hz2 : s ≠ ByteArray.empty := size_ne_empty (by omega)
  go_enter Try.func8, Try.ntmps8
  go_wp2_with (go_at_call 10; refine (isDead_any _ _ hs).mono ?_; rintro e w' ⟨rfl, rfl⟩)
  go_ret
  exact ⟨rfl, rfl⟩

theorem src_size (s : ByteArray) : (src s).size = s.size - 4 := by simp [src]

set_option maxHeartbeats 400000 in
theorem valid_great (s : ByteArray) (w : World) (hs : s.size ≤ maxLen) (h1 : 132 < s.size) (hf : sfxB s = true) :
    Calls Try.prog 8 #[.string s] w fun e w' => e = .returned (.bool false) ∧ w' = w := by
  have hs' := hs
  unfold maxLen at hs'
  obtain ⟨t, ht⟩ : ∃ t, src s = t := ⟨_, rfl⟩
  have HT : Hid (src s = t) := ht
  have h2 : 128 < t.size := by rw [← ht, src_size]; omega
  have h3 : t.size ≤ 2 ^ 63 - 1 := by rw [← ht, src_size]; omega
  clear ht
  have hz : ((t.size : Int) == 0) = false := by rw [beq_eq_false_iff_ne]; omega
  have hz2 : t ≠ ByteArray.empty := size_ne_empty (by omega)
  go_enter Try.func8, Try.ntmps8
  go_wp2_with (first | (go_at_call 10; refine (isDead_any _ _ hs).mono ?_; rintro e w' ⟨rfl, rfl⟩) | (go_at_call 11; refine (source_hit s t _ hs hf HT.out).mono ?_; rintro e w' ⟨rfl, rfl⟩))
  go_ret
  exact ⟨rfl, rfl⟩

set_option maxHeartbeats 1000000 in
theorem valid_hit (s : ByteArray) (w : World) (h1 : 128 < s.size) (h2 : s.size ≤ 132) (hf : sfxB s = true) :
    Calls Try.prog 8 #[.string s] w fun e w' => e = .returned (.bool (nbs (src s).data.toList)) ∧ w' = w := by
  have hs : s.size ≤ maxLen := by unfold maxLen; omega
  obtain ⟨t, ht⟩ : ∃ t, src s = t := ⟨_, rfl⟩
  have HT : Hid (src s = t) := ht
  have g0 : 1 ≤ t.size := by rw [← ht, src_size]; omega
  have g1 : t.size ≤ 128 := by rw [← ht, src_size]; omega
  rw [ht]
  clear ht
  have hz : ((t.size : Int) == 0) = false := by rw [beq_eq_false_iff_ne]; omega
  have hz2 : t ≠ ByteArray.empty := size_ne_empty g0
  go_enter Try.func8, Try.ntmps8
  go_wp2_with (first | (go_at_call 10; refine (isDead_any _ _ hs).mono ?_; rintro e w' ⟨rfl, rfl⟩) | (go_at_call 11; refine (source_hit s t _ hs hf HT.out).mono ?_; rintro e w' ⟨rfl, rfl⟩))
  go_loop [3] (fun i => ∃ k : Nat, k ≤ t.size ∧ i = .int .i64 k ∧ nbs (t.data.toList.take k) = true) (fun i => t.size - (intOf i).toNat)
  case atStart => exact ⟨0, Nat.zero_le _, rfl, by simp [nbs]⟩
  case round =>
    obtain ⟨k, hk, rfl, hn⟩ := hrel
    have HN : Hid (nbs (t.data.toList.take k) = true) := hn
    clear hn
    by_cases hlt : k < t.size
    · have HS : Hid (nbs (t.data.toList.take (k + 1)) = (nbs (t.data.toList.take k) && nbI t[k].toNat)) := by rw [take_snoc t k hlt, nbs_snoc]; exact rfl
      go_wp2
      all_goals first
        | (go_ret
           refine ⟨ret_bool (nbs_of_bad t k hlt (nbI_false ?_)).symm, rfl⟩
           go_light
           simp only [beq_eq_false_iff_ne] at *
           omega)
        | (go_light
           have hb : nbI t[k].toNat = true := by
             rw [nbI_iff]
             simp only [beq_iff_eq, beq_eq_false_iff_ne] at *
             omega
           refine ⟨⟨k + 1, by omega, by go_num, by rw [HS.out, HN.out, hb]; rfl⟩, ?_⟩
           simp [intOf]; omega)
    · go_wp2
      go_ret
      refine ⟨ret_bool ?_, rfl⟩
      rw [← HN.out, List.take_of_length_le (by simp; omega)]

/-! ### Plain: what the two laws ask -/
theorem src_data (s : ByteArray) : (src s).data.toList = s.data.toList.take (s.size - 4) := by
  unfold src; rw [Lib.extract_data]; simp

theorem nbs_append (a b : List UInt8) : nbs (a ++ b) = (nbs a && nbs b) := by simp [nbs, List.all_append]

/-- A text that ends in the suffix is made of name bytes just where what stands ahead of the suffix is. -/
theorem nbs_src (s : ByteArray) (hf : sfxB s = true) : nbs (src s).data.toList = nbs s.data.toList := by
  have h4 := sfxB_size hf
  have hd : s.data.toList.drop (s.size - 4) = [45, 100, 108, 113] := by
    rw [← sfxB_long h4, extract_end] at hf
    simpa using hf
  have e : s.data.toList = s.data.toList.take (s.size - 4) ++ [45, 100, 108, 113] := by
    rw [← hd, List.take_append_drop]
  rw [src_data]
  conv => rhs; rw [e, nbs_append]
  simp [nbs, nbI]

end Go.Proofs.Qxb6619423a
