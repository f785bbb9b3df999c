import Derived.Test.Qxb6619443aChecked
namespace Go.Proofs.Qxb6619443a

/-! ### Plain: whole roots -/

/-- r is the whole v-th root of n and ok says so; or there is none, and r is 0. -/
def RootIs (n v r : Nat) (ok : Bool) : Prop :=
  (ok = true ∧ 1 ≤ r ∧ r ^ v = n) ∨ (ok = false ∧ r = 0 ∧ ∀ b, 1 ≤ b → b ^ v ≠ n)

theorem pow_le {a b : Nat} (h : a ≤ b) (v : Nat) : a ^ v ≤ b ^ v := Nat.pow_le_pow_left h v

theorem pow_lt {a b v : Nat} (hv : 1 ≤ v) (h : a < b) : a ^ v < b ^ v := Nat.pow_lt_pow_left h (by omega)

theorem pow_inj {a b v : Nat} (hv : 1 ≤ v) (h : a ^ v = b ^ v) : a = b := by
  rcases Nat.lt_trichotomy a b with h1 | h1 | h1
  · have := pow_lt hv h1; omega
  · exact h1
  · have := pow_lt hv h1; omega

/-- There is one answer. -/
theorem RootIs.unique {n v r r' : Nat} {ok ok' : Bool} (hv : 1 ≤ v) (h : RootIs n v r ok) (h' : RootIs n v r' ok') : r = r' ∧ ok = ok' := by
  rcases h with ⟨rfl, h1, h2⟩ | ⟨rfl, rfl, h2⟩
  · rcases h' with ⟨rfl, h1', h2'⟩ | ⟨rfl, rfl, h2'⟩
    · exact ⟨pow_inj hv (h2.trans h2'.symm), rfl⟩
    · exact absurd h2 (h2' r h1)
  · rcases h' with ⟨rfl, h1', h2'⟩ | ⟨rfl, rfl, _⟩
    · exact absurd h2' (h2 r' h1')
    · exact ⟨rfl, rfl⟩

/-- From below too little, from r on too much: there is none. -/
theorem RootIs.none_of {n v r : Nat} (hlo : (r - 1) ^ v < n) (hhi : n < r ^ v) : RootIs n v 0 false := by
  refine .inr ⟨rfl, rfl, fun b hb e => ?_⟩
  by_cases h : b ≤ r - 1
  · have := pow_le h v; omega
  · have := pow_le (show r ≤ b by omega) v; omega

theorem RootIs.floor_yes {n v r : Nat} (h1 : 1 ≤ r) (h : r ^ v = n) : RootIs n v r true := .inl ⟨rfl, h1, h⟩

theorem RootIs.floor_no {n v r : Nat} (hlo : r ^ v ≤ n) (hne : r ^ v ≠ n) (hhi : n < (r + 1) ^ v) : RootIs n v 0 false :=
  RootIs.none_of (r := r + 1) (by rw [Nat.add_sub_cancel]; omega) hhi

/-- A root from 2 up of a number up to 2^32 is small. -/
theorem base_small {r v n : Nat} (hv : 2 ≤ v) (hr : 1 ≤ r) (h : r ^ v < n) (hn : n ≤ 4294967296) : r < 65536 := by
  by_cases hb : r < 65536
  · exact hb
  · have h1 : r ^ 2 ≤ r ^ v := Nat.pow_le_pow_right hr hv
    have h2 : 65536 ^ 2 ≤ r ^ 2 := Nat.pow_le_pow_left (by omega) 2
    omega

theorem pow_step (r i : Nat) : r ^ i * r = r ^ (i + 1) := (Nat.pow_succ r i).symm

theorem pow_mono {r i v : Nat} (hr : 1 ≤ r) (h : i ≤ v) : r ^ i ≤ r ^ v := Nat.pow_le_pow_right hr h

theorem pow_pos' {r : Nat} (hr : 1 ≤ r) (i : Nat) : 1 ≤ r ^ i := Nat.one_le_pow _ _ hr

theorem succ_pow_gt (n v : Nat) (hv : 1 ≤ v) : n < (n + 1) ^ v := by
  have : (n + 1) ^ 1 ≤ (n + 1) ^ v := Nat.pow_le_pow_right (by omega) hv
  rw [Nat.pow_one] at this
  omega

/-- What the capped power answers. -/
def CapIs (b v n p : Nat) : Prop := (b ^ v ≤ n ∧ p = b ^ v) ∨ (n < b ^ v ∧ p = n + 1)

theorem CapIs.le_iff {b v n p : Nat} (h : CapIs b v n p) : p ≤ n ↔ b ^ v ≤ n := by
  rcases h with ⟨h1, h2⟩ | ⟨h1, h2⟩ <;> omega

theorem CapIs.eq_iff {b v n p : Nat} (h : CapIs b v n p) : p = n ↔ b ^ v = n := by
  rcases h with ⟨h1, h2⟩ | ⟨h1, h2⟩ <;> omega

/-- The root of a root. -/
theorem RootIs.compose {n v w a b : Nat} {ok2 : Bool} (h1 : RootIs n v a true) (hv : 1 ≤ v) (h2 : RootIs a w b ok2) : RootIs n (v * w) b ok2 := by
  rcases h1 with ⟨_, ha, hn⟩ | ⟨h, _⟩
  · rcases h2 with ⟨rfl, hb, he⟩ | ⟨rfl, rfl, hno⟩
    · refine .inl ⟨rfl, hb, ?_⟩
      rw [Nat.mul_comm, Nat.pow_mul, he, hn]
    · refine .inr ⟨rfl, rfl, fun c hc e => ?_⟩
      rw [Nat.mul_comm, Nat.pow_mul, ← hn] at e
      exact hno c hc (pow_inj hv e)
  · cases h

theorem RootIs.compose_none {n v w a : Nat} (h1 : RootIs n v a false) : RootIs n (v * w) 0 false := by
  rcases h1 with ⟨h, _⟩ | ⟨_, _, hno⟩
  · cases h
  · refine .inr ⟨rfl, rfl, fun c hc e => ?_⟩
    rw [Nat.mul_comm, Nat.pow_mul] at e
    exact hno (c ^ w) (pow_pos' hc w) e

theorem RootIs.le {n v r : Nat} (hv : 1 ≤ v) (h : RootIs n v r true) : 1 ≤ r ∧ r ≤ n := by
  rcases h with ⟨_, h1, h2⟩ | ⟨h, _⟩
  · refine ⟨h1, ?_⟩
    have : r ^ 1 ≤ r ^ v := Nat.pow_le_pow_right h1 hv
    rw [Nat.pow_one] at this
    omega
  · cases h

end Go.Proofs.Qxb6619443a
