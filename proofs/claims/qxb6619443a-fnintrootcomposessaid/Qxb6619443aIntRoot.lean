import Derived.Test.Qxb6619443aRoots
namespace Go.Proofs.Qxb6619443a
open Go.RowKit

/-- What a call that seeks a root leaves. -/
def RootEnd (n v : Nat) (w : World) (e : Ending) (w' : World) : Prop :=
  ∃ (r : Nat) (ok : Bool), e = .returned (.tuple #[.int .u64 (r : Int), .bool ok]) ∧ RootIs n v r ok ∧ w = w'

set_option maxHeartbeats 2000000 in
theorem intRoot_loop (n v : Nat) (w : World) (hv2 : 2 ≤ v) (hv : v ≤ 18446744073709551615) (hn2 : 2 ≤ n) (hn : n ≤ 4294967296) :
    Calls Try.prog 13 #[.int .u64 (n : Int), .int .u64 (v : Int)] w fun e w' => RootEnd n v w e w' := by
  have hb1 : ((n : Int) == 1) = false := by rw [beq_eq_false_iff_ne]; omega
  have hb2 : ((v : Int) == 1) = false := by rw [beq_eq_false_iff_ne]; omega
  go_enter Try.func13, Try.ntmps13
  go_wp2
  go_loop [6] (fun tr => ∃ r : Nat, 2 ≤ r ∧ r ≤ 65536 ∧ tr = .int .u64 (r : Int) ∧ (r - 1) ^ v < n) (fun tr => 65537 - (intOf tr).toNat)
  case atStart => exact ⟨2, Nat.le_refl _, by omega, rfl, by rw [Nat.one_pow]; omega⟩
  case round =>
    obtain ⟨r, hr2, hr6, rfl, hlo⟩ := hrel
    have HLO := hide hlo
    clear hlo
    go_wp2
    go_loop [7, 8] (fun tp ti => ∃ p i : Nat, i ≤ v ∧ 1 ≤ p ∧ p ≤ 281474976710656 ∧ tp = .int .u64 (p : Int) ∧ ti = .int .u64 (i : Int) ∧ p = r ^ i) (fun _ ti => v - (intOf ti).toNat)
    case atStart => exact ⟨1, 0, Nat.zero_le _, Nat.le_refl _, by omega, rfl, rfl, rfl⟩
    case round =>
      obtain ⟨p, i, hi, hp1, hp2, rfl, rfl, hpe⟩ := hrel
      have HP := hide hpe
      clear hpe
      by_cases hgo : i < v ∧ p ≤ n
      · obtain ⟨hiv, hpn⟩ := hgo
        obtain ⟨E, hE⟩ : ∃ E, p * r = E := ⟨_, rfl⟩
        have hE1 : 1 ≤ E := by rw [← hE]; exact Nat.mul_pos hp1 (by omega)
        have hE2 : E ≤ 281474976710656 := by
          rw [← hE]
          have : p * r ≤ 4294967296 * 65536 := Nat.mul_le_mul (by omega) hr6
          omega
        have hw2 : IntKind.u64.wrap ((p : Int) * (r : Int)) = (E : Int) := by
          rw [← Int.natCast_mul, hE, u64_nat E (by omega)]
        have HE := hide hE
        clear hE
        go_wp2
        go_light
        refine ⟨⟨E, i + 1, by omega, hE1, hE2, rfl, by go_num, by rw [← HE.out, HP.out, pow_step]⟩, ?_⟩
        simp [intOf]; omega
      · by_cases hpn : p ≤ n
        · have hiv : i = v := by omega
          subst hiv
          clear hgo
          by_cases heq : p = n
          · have hb3 : ((p : Int) == (n : Int)) = true := by rw [beq_iff_eq, heq]
            have HEQ := hide heq
            clear heq
            go_wp2
            go_ret2
            exact ⟨r, true, rfl, RootIs.floor_yes (by omega) (by rw [← HP.out, HEQ.out]), rfl⟩
          · have hb3 : ((p : Int) == (n : Int)) = false := by rw [beq_eq_false_iff_ne]; omega
            go_wp2
            go_light
            have hlt : r ^ i < n := by rw [← HP.out]; omega
            have hsm := base_small hv2 (by omega) hlt hn
            refine ⟨⟨r + 1, by omega, by omega, by go_num, by rw [Nat.add_sub_cancel]; exact hlt⟩, ?_⟩
            simp [intOf]; omega
        · clear hgo
          have hend : RootIs n v 0 false := by
            refine RootIs.none_of HLO.out ?_
            have h1 := pow_mono (r := r) (by omega) hi
            rw [← HP.out] at h1
            omega
          have HN := hide hend
          clear hend
          by_cases hiv : i < v
          · go_wp2
            go_ret2
            exact ⟨0, false, rfl, HN.out, rfl⟩
          · go_wp2
            go_ret2
            exact ⟨0, false, rfl, HN.out, rfl⟩

set_option maxHeartbeats 400000 in
theorem intRoot_one (v : Nat) (w : World) :
    Calls Try.prog 13 #[.int .u64 ((1 : Nat) : Int), .int .u64 (v : Int)] w fun e w' => RootEnd 1 v w e w' := by
  go_enter Try.func13, Try.ntmps13
  go_wp2
  go_ret2
  exact ⟨1, true, rfl, .inl ⟨rfl, Nat.le_refl _, Nat.one_pow v⟩, rfl⟩

set_option maxHeartbeats 400000 in
theorem intRoot_self (n : Nat) (w : World) (hn2 : 2 ≤ n) :
    Calls Try.prog 13 #[.int .u64 (n : Int), .int .u64 ((1 : Nat) : Int)] w fun e w' => RootEnd n 1 w e w' := by
  have hb1 : ((n : Int) == 1) = false := by rw [beq_eq_false_iff_ne]; omega
  go_enter Try.func13, Try.ntmps13
  go_wp2
  go_ret2
  exact ⟨n, true, rfl, .inl ⟨rfl, by omega, Nat.pow_one n⟩, rfl⟩

theorem intRoot_any (n v : Nat) (w : World) (hv1 : 1 ≤ v) (hv : v ≤ 18446744073709551615) (hn1 : 1 ≤ n) (hn : n ≤ 4294967296) :
    Calls Try.prog 13 #[.int .u64 (n : Int), .int .u64 (v : Int)] w fun e w' => RootEnd n v w e w' := by
  by_cases h1 : n = 1
  · subst h1
    exact intRoot_one v w
  · by_cases h2 : v = 1
    · subst h2
      exact intRoot_self n w (by omega)
    · exact intRoot_loop n v w (by omega) hv (by omega) hn

set_option maxHeartbeats 400000 in
/-- The exported door: ni, vi are what the walk writes for n and v. -/
theorem zzIntRoot_any (ni vi : Int) (n v : Nat) (w : World) (hni : ni = (n : Int)) (hvi : vi = (v : Int)) (hv1 : 1 ≤ v) (hv : v ≤ 18446744073709551615) (hn1 : 1 ≤ n) (hn : n ≤ 4294967296) :
    Calls Try.prog 6 #[.int .u64 ni, .int .u64 vi] w fun e w' => RootEnd n v w e w' := by
  subst hni hvi
  go_enter Try.func6, Try.ntmps6
  go_wp2_with (go_at_call 13; refine (intRoot_any n v _ hv1 hv hn1 hn).mono ?_; rintro e w' ⟨r, ok, rfl, hr, rfl⟩)
  go_ret2
  exact ⟨r, ok, rfl, hr, rfl⟩

end Go.Proofs.Qxb6619443a
