import Derived.Test.Qxb6619443aPlain
import Derived.WalkKit
import Derived.WalkSpells
import Derived.WalkLawsBesides
import Derived.Deep.Light
namespace Go.Proofs.Qxb6619443a
open Go.RowKit

theorem hide {p : Prop} (h : p) : Hid p := h

theorem u64_nat (D : Nat) (h : D ≤ 18446744073709551615) : IntKind.u64.wrap (D : Int) = (D : Int) := by
  rw [IntKind.wrap_u64]; omega

set_option maxHeartbeats 1000000 in
theorem powCap_any (bi : Int) (b v n : Nat) (w : World) (hbi : bi = (b : Int)) (hb : 1 ≤ b) (hbn : b ≤ n) (hv : v ≤ 18446744073709551615) (hn1 : 1 ≤ n) (hn : n ≤ 4294967296) :
    Calls Try.prog 14 #[.int .u64 bi, .int .u64 (v : Int), .int .u64 (n : Int)] w fun e w' => ∃ p : Nat, e = .returned (.int .u64 (p : Int)) ∧ CapIs b v n p ∧ w = w' := by
  subst hbi
  by_cases h1 : b = 1
  · subst h1
    go_enter Try.func14, Try.ntmps14
    go_wp2
    go_ret
    exact ⟨1, rfl, .inl ⟨by rw [Nat.one_pow]; exact hn1, by rw [Nat.one_pow]⟩, rfl⟩
  · have hb1 : ((b : Int) == 1) = false := by rw [beq_eq_false_iff_ne]; omega
    go_enter Try.func14, Try.ntmps14
    go_wp2
    go_loop [7, 8] (fun tp ti => ∃ p i : Nat, i ≤ v ∧ p ≤ n ∧ tp = .int .u64 (p : Int) ∧ ti = .int .u64 (i : Int) ∧ p = b ^ i) (fun _ ti => v - (intOf ti).toNat)
    case atStart => exact ⟨1, 0, Nat.zero_le _, hn1, rfl, rfl, rfl⟩
    case round =>
      obtain ⟨p, i, hi, hp, rfl, rfl, hpe⟩ := hrel
      have HP := hide hpe
      clear hpe
      by_cases hlt : i < v
      · obtain ⟨D, hD⟩ : ∃ D, n / b = D := ⟨_, rfl⟩
        have hDn : D ≤ n := by rw [← hD]; exact Nat.div_le_self n b
        have hw1 : IntKind.u64.wrap ((n : Int) / (b : Int)) = (D : Int) := by
          rw [← Int.natCast_ediv, hD, u64_nat D (by omega)]
        by_cases hgt : D < p
        · go_wp2
          go_ret
          refine ⟨n + 1, by go_num, .inr ⟨?_, rfl⟩, rfl⟩
          have h2 : n < p * b := by
            rw [← hD] at hgt
            exact (Nat.div_lt_iff_lt_mul (by omega)).1 hgt
          have h3 : p * b = b ^ (i + 1) := by rw [HP.out, pow_step]
          have h4 := pow_mono (r := b) hb (show i + 1 ≤ v by omega)
          omega
        · have hpb : p * b ≤ n := by
            have h5 : p ≤ n / b := by omega
            exact (Nat.le_div_iff_mul_le (by omega)).1 h5
          obtain ⟨E, hE⟩ : ∃ E, p * b = E := ⟨_, rfl⟩
          have hw2 : IntKind.u64.wrap ((p : Int) * (b : Int)) = (E : Int) := by
            rw [← Int.natCast_mul, hE, u64_nat E (by omega)]
          have HE := hide hE
          rw [hE] at hpb
          clear hE hD
          go_wp2
          go_light
          refine ⟨⟨E, i + 1, by omega, hpb, rfl, by go_num, by rw [← HE.out, HP.out, pow_step]⟩, ?_⟩
          simp [intOf]; omega
      · go_wp2
        go_ret
        have e := HP.out
        have : i = v := by omega
        subst this
        exact ⟨p, rfl, .inl ⟨by omega, e⟩, rfl⟩

set_option maxHeartbeats 1000000 in
theorem floorRoot_any (n v : Nat) (w : World) (hv1 : 1 ≤ v) (hv : v ≤ 18446744073709551615) (hn1 : 1 ≤ n) (hn : n ≤ 4294967296) :
    Calls Try.prog 7 #[.int .u64 (n : Int), .int .u64 (v : Int)] w fun e w' => ∃ (r : Nat) (ok : Bool), e = .returned (.tuple #[.int .u64 (r : Int), .bool ok]) ∧ RootIs n v r ok ∧ w = w' := by
  go_enter Try.func7, Try.ntmps7
  go_wp2
  go_loop [6, 7] (fun tl th => ∃ lo hi : Nat, 1 ≤ lo ∧ lo ≤ hi ∧ hi ≤ n ∧ tl = .int .u64 (lo : Int) ∧ th = .int .u64 (hi : Int) ∧ lo ^ v ≤ n ∧ n < (hi + 1) ^ v) (fun tl th => (intOf th).toNat - (intOf tl).toNat)
  case atStart => exact ⟨1, n, Nat.le_refl _, hn1, Nat.le_refl _, rfl, rfl, by rw [Nat.one_pow]; exact hn1, succ_pow_gt n v hv1⟩
  case round =>
    obtain ⟨lo, hi, h1, h2, h3, rfl, rfl, h4, h5⟩ := hrel
    have H4 := hide h4
    have H5 := hide h5
    clear h4 h5
    by_cases hlt : lo < hi
    · obtain ⟨M, hM⟩ : ∃ M, lo + (hi - lo + 1) / 2 = M := ⟨_, rfl⟩
      have hM1 : lo < M := by omega
      have hM2 : M ≤ hi := by omega
      have HM : Hid ((lo : Int) + ((hi : Int) - (lo : Int) + 1) / 2 = (M : Int)) := by show _ = _; omega
      clear hM
      go_wp2_with fail
      rw [HM.out]
      refine (powCap_any _ M v n w rfl (by omega) (by omega) hv hn1 hn).mono ?_
      rintro e w' ⟨p, rfl, hcap, rfl⟩
      have HC := hide hcap
      clear hcap
      by_cases hpn : p ≤ n
      · go_wp2
        go_light
        refine ⟨⟨M, hi, by omega, by omega, h3, rfl, rfl, HC.out.le_iff.1 hpn, H5.out⟩, ?_⟩
        simp [intOf]; omega
      · have hMM : (M : Int) - 1 = ((M - 1 : Nat) : Int) := by omega
        have HMM := hide hMM
        clear hMM
        go_wp2
        go_light
        have hgt : n < M ^ v := by
          have := HC.out.le_iff
          omega
        refine ⟨⟨lo, M - 1, h1, by omega, by omega, rfl, by rw [HMM.out], H4.out, by rw [Nat.sub_add_cancel (by omega)]; exact hgt⟩, ?_⟩
        simp [intOf]; omega
    · have hle : lo = hi := by omega
      subst hle
      go_wp2_with fail
      refine (powCap_any _ lo v n w rfl (by omega) (by omega) hv hn1 hn).mono ?_
      rintro e w' ⟨p, rfl, hcap, rfl⟩
      have HC := hide hcap
      clear hcap
      by_cases hpn : p = n
      · have hb : ((p : Int) == (n : Int)) = true := by rw [beq_iff_eq, hpn]
        have HPN := hide hpn
        clear hpn
        go_wp2
        go_ret2
        exact ⟨lo, true, rfl, RootIs.floor_yes h1 (HC.out.eq_iff.1 HPN.out), rfl⟩
      · have hb : ((p : Int) == (n : Int)) = false := by rw [beq_eq_false_iff_ne]; omega
        go_wp2
        go_ret2
        exact ⟨0, false, rfl, RootIs.floor_no H4.out (fun e => hpn (HC.out.eq_iff.2 e)) H5.out, rfl⟩
end Go.Proofs.Qxb6619443a
