import Derived.Test.Qxb6617947aChecked
namespace Go.Proofs.Qxb6617947a

/-! ### Plain: ranks by counting, and the merge -/

/-- How many of a, a+1, .., a+k-1 meet p. -/
def cnt (p : Nat → Bool) (a : Nat) : Nat → Nat
  | 0 => 0
  | k + 1 => cnt p a k + if p (a + k) = true then 1 else 0

theorem cnt_le (p : Nat → Bool) (a k : Nat) : cnt p a k ≤ k := by
  induction k with
  | zero => exact Nat.le_refl _
  | succ k ih => simp only [cnt]; split <;> omega

theorem cnt_ge (p : Nat → Bool) (a : Nat) : ∀ k m, m ≤ k → (∀ t, t < m → p (a + t) = true) → m ≤ cnt p a k := by
  intro k
  induction k with
  | zero => intro m h _; simp only [cnt]; omega
  | succ k ih =>
    intro m h hp
    by_cases hm : m ≤ k
    · have := ih m hm hp
      simp only [cnt]
      omega
    · have h1 := ih k (Nat.le_refl _) (fun t ht => hp t (by omega))
      have h2 := hp k (by omega)
      simp only [cnt, h2, if_true]
      omega

theorem cnt_le_of (p : Nat → Bool) (a m : Nat) : ∀ k, (∀ t, t < k → p (a + t) = true → t < m) → cnt p a k ≤ m := by
  intro k
  induction k with
  | zero => intro _; simp only [cnt]; omega
  | succ k ih =>
    intro hp
    by_cases hk : p (a + k) = true
    · have h1 := hp k (by omega) hk
      have h2 := cnt_le p a k
      simp only [cnt, hk, if_true]
      omega
    · have h1 := ih (fun t ht => hp t (by omega))
      simp only [cnt, if_neg hk]
      omega

theorem cnt_mono (p p' : Nat → Bool) (a : Nat) : ∀ k, (∀ t, t < k → p (a + t) = true → p' (a + t) = true) → cnt p a k ≤ cnt p' a k := by
  intro k
  induction k with
  | zero => intro _; exact Nat.le_refl _
  | succ k ih =>
    intro hp
    have h1 := ih (fun t ht => hp t (by omega))
    simp only [cnt]
    by_cases hk : p (a + k) = true
    · have := hp k (by omega) hk
      simp only [hk, this, if_true]
      omega
    · rw [if_neg hk]
      omega

/-- What the merge is over: keys of the symbols from s0 up to n, weights of the nodes from d0 up to made. -/
structure Ord (ky wt : Nat → Int) (s0 n d0 made : Nat) : Prop where
  ks : ∀ i j, s0 ≤ i → i ≤ j → j < n → ky i ≤ ky j
  ws : ∀ q r, d0 ≤ q → q ≤ r → r < made → wt q ≤ wt r

theorem sorted_of (f : Nat → Int) (a b : Nat) (h : ∀ j, a ≤ j → j + 1 < b → f j ≤ f (j + 1)) : ∀ i j, a ≤ i → i ≤ j → j < b → f i ≤ f j := by
  intro i j hi hij
  induction j with
  | zero => intro _; have : i = 0 := by omega
            subst this; exact Int.le_refl _
  | succ j ih =>
    intro hj
    by_cases hs : i = j + 1
    · subst hs; exact Int.le_refl _
    · have h1 := ih (by omega) (by omega)
      have h2 := h j (by omega) hj
      omega

def rankS (ky wt : Nat → Int) (s0 d0 made i : Nat) : Nat := (i - s0) + cnt (fun q => decide (wt q < ky i)) d0 (made - d0)
def rankN (ky wt : Nat → Int) (s0 n d0 q : Nat) : Nat := (q - d0) + cnt (fun i => decide (ky i ≤ wt q)) s0 (n - s0)

section
variable {ky wt : Nat → Int} {s0 n d0 made : Nat}

theorem rankS_lt (h : Ord ky wt s0 n d0 made) {i j : Nat} (hi : s0 ≤ i) (hij : i < j) (hj : j < n) : rankS ky wt s0 d0 made i < rankS ky wt s0 d0 made j := by
  unfold rankS
  have h1 := h.ks i j hi (by omega) hj
  have h2 := cnt_mono (fun q => decide (wt q < ky i)) (fun q => decide (wt q < ky j)) d0 (made - d0) (fun t _ ht => by
    simp only [decide_eq_true_eq] at ht ⊢
    omega)
  omega

theorem rankN_lt (h : Ord ky wt s0 n d0 made) {q r : Nat} (hq : d0 ≤ q) (hqr : q < r) (hr : r < made) : rankN ky wt s0 n d0 q < rankN ky wt s0 n d0 r := by
  unfold rankN
  have h1 := h.ws q r hq (by omega) hr
  have h2 := cnt_mono (fun i => decide (ky i ≤ wt q)) (fun i => decide (ky i ≤ wt r)) s0 (n - s0) (fun t _ ht => by
    simp only [decide_eq_true_eq] at ht ⊢
    omega)
  omega

theorem rank_ne (h : Ord ky wt s0 n d0 made) {i q : Nat} (hi : s0 ≤ i) (hin : i < n) (hq : d0 ≤ q) (hqm : q < made) : rankS ky wt s0 d0 made i ≠ rankN ky wt s0 n d0 q := by
  unfold rankS rankN
  by_cases hc : ky i ≤ wt q
  · have h1 : cnt (fun q => decide (wt q < ky i)) d0 (made - d0) ≤ q - d0 := by
      refine cnt_le_of _ _ _ _ (fun t ht hp => ?_)
      simp only [decide_eq_true_eq] at hp
      by_cases hle : q ≤ d0 + t
      · have := h.ws q (d0 + t) hq hle (by omega)
        omega
      · omega
    have h2 : i - s0 + 1 ≤ cnt (fun i => decide (ky i ≤ wt q)) s0 (n - s0) := by
      refine cnt_ge _ _ _ _ (by omega) (fun t ht => ?_)
      have := h.ks (s0 + t) i (by omega) (by omega) hin
      simp only [decide_eq_true_eq]
      omega
    omega
  · have h1 : cnt (fun i => decide (ky i ≤ wt q)) s0 (n - s0) ≤ i - s0 := by
      refine cnt_le_of _ _ _ _ (fun t ht hp => ?_)
      simp only [decide_eq_true_eq] at hp
      by_cases hle : i ≤ s0 + t
      · have := h.ks i (s0 + t) hi hle (by omega)
        omega
      · omega
    have h2 : q - d0 + 1 ≤ cnt (fun q => decide (wt q < ky i)) d0 (made - d0) := by
      refine cnt_ge _ _ _ _ (by omega) (fun t ht => ?_)
      have := h.ws (d0 + t) q (by omega) (by omega) hqm
      simp only [decide_eq_true_eq]
      omega
    omega

theorem rankS_le (i : Nat) (hin : i < n) (hn : n ≤ 512) (hm : made ≤ 512) : rankS ky wt s0 d0 made i < 1024 := by
  unfold rankS
  have := cnt_le (fun q => decide (wt q < ky i)) d0 (made - d0)
  omega

theorem rankN_le (q : Nat) (hqm : q < made) (hn : n ≤ 512) (hm : made ≤ 512) : rankN ky wt s0 n d0 q < 1024 := by
  unfold rankN
  have := cnt_le (fun i => decide (ky i ≤ wt q)) s0 (n - s0)
  omega

/-- Where the merge stands: s symbols' cursor, d the nodes'. -/
structure Mrg (ky wt : Nat → Int) (s0 n d0 made s d : Nat) : Prop where
  s1 : s0 ≤ s
  s2 : s ≤ n
  d1 : d0 ≤ d
  d2 : d ≤ made
  nodes : ∀ q, d0 ≤ q → q < d → s < n → wt q < ky s
  syms : ∀ i, s0 ≤ i → i < s → d < made → ky i ≤ wt d

theorem Mrg.start (h1 : s0 ≤ n) (h2 : d0 ≤ made) : Mrg ky wt s0 n d0 made s0 d0 :=
  ⟨Nat.le_refl _, h1, Nat.le_refl _, h2, fun q a b _ => by omega, fun i a b _ => by omega⟩

theorem Mrg.sym {s d : Nat} (o : Ord ky wt s0 n d0 made) (h : Mrg ky wt s0 n d0 made s d) (hs : s < n) (hc : d = made ∨ (d < made ∧ ky s ≤ wt d)) :
    rankS ky wt s0 d0 made s = (s - s0) + (d - d0) ∧ Mrg ky wt s0 n d0 made (s + 1) d := by
  have a1 := h.s1
  have a2 := h.d1
  have a3 := h.d2
  refine ⟨?_, by omega, by omega, a2, a3, fun q hq hqd hs1 => ?_, fun i hi his hd => ?_⟩
  · unfold rankS
    have h1 : cnt (fun q => decide (wt q < ky s)) d0 (made - d0) ≤ d - d0 := by
      refine cnt_le_of _ _ _ _ (fun t ht hp => ?_)
      simp only [decide_eq_true_eq] at hp
      by_cases hle : d ≤ d0 + t
      · rcases hc with hc | ⟨hc1, hc2⟩
        · omega
        · have := o.ws d (d0 + t) a2 hle (by omega)
          omega
      · omega
    have h2 : d - d0 ≤ cnt (fun q => decide (wt q < ky s)) d0 (made - d0) := by
      refine cnt_ge _ _ _ _ (by omega) (fun t ht => ?_)
      simp only [decide_eq_true_eq]
      exact h.nodes (d0 + t) (by omega) (by omega) hs
    omega
  · have := h.nodes q hq hqd hs
    have := o.ks s (s + 1) a1 (by omega) hs1
    omega
  · by_cases e : i = s
    · subst e
      rcases hc with hc | ⟨hc1, hc2⟩
      · omega
      · exact hc2
    · exact h.syms i hi (by omega) hd

theorem Mrg.node {s d : Nat} (o : Ord ky wt s0 n d0 made) (h : Mrg ky wt s0 n d0 made s d) (hd : d < made) (hc : s = n ∨ (s < n ∧ wt d < ky s)) :
    rankN ky wt s0 n d0 d = (s - s0) + (d - d0) ∧ Mrg ky wt s0 n d0 made s (d + 1) := by
  have a1 := h.s1
  have a2 := h.d1
  have a3 := h.s2
  refine ⟨?_, a1, a3, by omega, by omega, fun q hq hqd hs => ?_, fun i hi his hd1 => ?_⟩
  · unfold rankN
    have h1 : cnt (fun i => decide (ky i ≤ wt d)) s0 (n - s0) ≤ s - s0 := by
      refine cnt_le_of _ _ _ _ (fun t ht hp => ?_)
      simp only [decide_eq_true_eq] at hp
      by_cases hle : s ≤ s0 + t
      · rcases hc with hc | ⟨hc1, hc2⟩
        · omega
        · have := o.ks s (s0 + t) a1 hle (by omega)
          omega
      · omega
    have h2 : s - s0 ≤ cnt (fun i => decide (ky i ≤ wt d)) s0 (n - s0) := by
      refine cnt_ge _ _ _ _ (by omega) (fun t ht => ?_)
      simp only [decide_eq_true_eq]
      exact h.syms (s0 + t) (by omega) (by omega) hd
    omega
  · by_cases e : q = d
    · subst e
      rcases hc with hc | ⟨hc1, hc2⟩
      · omega
      · exact hc2
    · exact h.nodes q hq (by omega) hs
  · have := h.syms i hi his hd
    have := o.ws d (d + 1) a2 (by omega) hd1
    omega

end
end Go.Proofs.Qxb6617947a
