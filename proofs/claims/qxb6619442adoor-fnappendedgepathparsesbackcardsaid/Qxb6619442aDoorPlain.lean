import Derived.Lib.ItoaMem
namespace Go.Proofs.Qxb6619442aDoor
open Go.Lib

/-! ### Plain: a decimal numeral read back, digit by digit -/

/-- One digit more. -/
def stepD (m : Nat) (c : UInt8) : Nat := m * 10 + (c.toNat - 48)

/-- What the digits read so far come to. -/
def valD (l : List UInt8) : Nat := l.foldl stepD 0

def isDigit (c : UInt8) : Prop := 48 ≤ c.toNat ∧ c.toNat ≤ 57

theorem valD_snoc (l : List UInt8) (c : UInt8) : valD (l ++ [c]) = valD l * 10 + (c.toNat - 48) := by
  simp [valD, stepD, List.foldl_append]

theorem digit_of (d : Nat) (h : d < 10) : (UInt8.ofNat (48 + d)).toNat = 48 + d := by
  rw [UInt8.toNat_ofNat']; omega

theorem decDigits_small {u : Nat} (h : u < 10) : decDigits u = [UInt8.ofNat (48 + u)] := by rw [decDigits, dif_pos h]
theorem decDigits_big {u : Nat} (h : ¬ u < 10) : decDigits u = decDigits (u / 10) ++ [UInt8.ofNat (48 + u % 10)] := by rw [decDigits, dif_neg h]

theorem decDigits_val (u : Nat) : valD (decDigits u) = u := by
  induction u using Nat.strongRecOn with
  | _ u ih =>
    by_cases h : u < 10
    · rw [decDigits_small h]
      show 0 * 10 + ((UInt8.ofNat (48 + u)).toNat - 48) = u
      rw [digit_of u h]; omega
    · rw [decDigits_big h, valD_snoc, ih (u / 10) (by omega), digit_of _ (Nat.mod_lt _ (by omega))]
      omega

theorem decDigits_digits (u : Nat) : ∀ c ∈ decDigits u, isDigit c := by
  induction u using Nat.strongRecOn with
  | _ u ih =>
    by_cases h : u < 10
    · rw [decDigits_small h]
      intro c hc
      rw [List.mem_singleton.1 hc]
      unfold isDigit
      rw [digit_of u h]; omega
    · rw [decDigits_big h]
      intro c hc
      rw [List.mem_append] at hc
      rcases hc with hc | hc
      · exact ih (u / 10) (by omega) c hc
      · rw [List.mem_singleton.1 hc]
        unfold isDigit
        rw [digit_of _ (Nat.mod_lt _ (by omega))]; omega

theorem decDigits_pos (u : Nat) : 1 ≤ (decDigits u).length := by
  rw [decDigits_length]; exact nDigits_pos u

/-- No leading zero, but for the numeral 0 itself. -/
theorem decDigits_head (u : Nat) : ∀ c r, decDigits u = c :: r → r ≠ [] → c.toNat ≠ 48 := by
  induction u using Nat.strongRecOn with
  | _ u ih =>
    intro c r e hr
    by_cases h : u < 10
    · rw [decDigits_small h] at e
      exact absurd (List.cons.inj e).2.symm hr
    · rw [decDigits_big h] at e
      cases hq : decDigits (u / 10) with
      | nil => have := decDigits_pos (u / 10); rw [hq] at this; simp at this
      | cons c' r' =>
        rw [hq] at e
        have e1 : c' = c := (List.cons.inj e).1
        subst e1
        by_cases hr' : r' = []
        · subst hr'
          by_cases h2 : u / 10 < 10
          · rw [decDigits_small h2] at hq
            rw [← (List.cons.inj hq).1, digit_of _ h2]; omega
          · have h3 := congrArg List.length hq
            rw [decDigits_big h2, List.length_append] at h3
            have := decDigits_pos (u / 10 / 10)
            simp only [List.length_cons, List.length_nil] at h3
            omega
        · exact ih (u / 10) (by omega) c' r' hq hr'

theorem head_get (l : List UInt8) (h0 : 0 < l.length) (h2 : 2 ≤ l.length) (H : ∀ c r, l = c :: r → r ≠ [] → c.toNat ≠ 48) : l[0].toNat ≠ 48 := by
  cases l with
  | nil => simp at h0
  | cons c r => exact H c r rfl (by intro e; subst e; simp at h2)

/-- Reading on never makes it less. -/
theorem le_fold (l : List UInt8) : ∀ m : Nat, m ≤ l.foldl stepD m := by
  induction l with
  | nil => intro m; exact Nat.le_refl _
  | cons c r ih =>
    intro m
    have := ih (stepD m c)
    have h : m ≤ stepD m c := by unfold stepD; omega
    exact Nat.le_trans h this

theorem valD_take_le (l : List UInt8) (k : Nat) : valD (l.take k) ≤ valD l := by
  have : valD l = (l.drop k).foldl stepD (valD (l.take k)) := by
    unfold valD
    rw [← List.foldl_append, List.take_append_drop]
  rw [this]
  exact le_fold _ _

theorem valD_take_succ (l : List UInt8) (k : Nat) (h : k < l.length) : valD (l.take (k + 1)) = valD (l.take k) * 10 + (l[k].toNat - 48) := by
  rw [List.take_succ_eq_append_getElem h, valD_snoc]

/-- The line that an edge is written as. -/
def line (a c : Int) : List UInt8 := itoa a ++ 32 :: (itoa c ++ [10])

end Go.Proofs.Qxb6619442aDoor
