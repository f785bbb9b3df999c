import Derived.Test.Qxb6619442aDoorWalkA
import Derived.Deep.RegionWith
namespace Go.Proofs.Qxb6619442aDoor
open Go.Shelf Go.RowKit

/-! ### Plain: the path's text -/
def txt (q : Nat → Int) : Nat → List UInt8
  | 0 => []
  | k + 1 => txt q k ++ line (q k) (q (k + 1))

theorem txt_split (q : Nat → Int) (k : Nat) : ∀ n, k < n → ∃ r, txt q n = txt q k ++ (line (q k) (q (k + 1)) ++ r) := by
  intro n
  induction n with
  | zero => intro h; omega
  | succ n ih =>
    intro h
    by_cases hk : k = n
    · subst hk
      exact ⟨[], by simp [txt]⟩
    · obtain ⟨r, hr⟩ := ih (by omega)
      exact ⟨r ++ line (q n) (q (n + 1)), by simp [txt, hr]⟩

def Fits (q : Nat → Int) (n : Nat) : Prop := ∀ j, j < n → -9223372036854775808 ≤ q j ∧ q j ≤ 9223372036854775807

theorem txt_le (q : Nat → Int) (n : Nat) (hq : Fits q n) : ∀ k, k ≤ n - 1 → (txt q k).length ≤ 44 * k := by
  intro k
  induction k with
  | zero => intro _; simp [txt]
  | succ k ih =>
    intro h
    have h1 := ih (by omega)
    have h2 := line_le (q k) (q (k + 1)) (hq k (by omega)).1 (hq k (by omega)).2 (hq (k + 1) (by omega)).1 (hq (k + 1) (by omega)).2
    simp only [txt, List.length_append]
    omega

set_option maxHeartbeats 400000 in
theorem bytesB_ok (ao ao2 : Option Addr) (n cap n2 cap2 : Nat) (w : World) (h : n + n2 ≤ 1048576) :
    Calls Tryd.prog 9 #[.slice ao n cap, .slice ao2 n2 cap2] w fun e w' => e = .returned (.bool true) ∧ w = w' := by
  go_enter Tryd.func9, Tryd.ntmps9
  go_wp2
  go_ret
  exact ⟨rfl, rfl⟩

set_option maxHeartbeats 400000 in
theorem bytesB_no (ao ao2 : Option Addr) (n cap n2 cap2 : Nat) (w : World) (hn : n ≤ 9223372036854775807) (hn2 : n2 ≤ 9223372036854775807) (h : ¬ n + n2 ≤ 1048576) :
    Calls Tryd.prog 9 #[.slice ao n cap, .slice ao2 n2 cap2] w fun e w' => e = .returned (.bool false) ∧ w = w' := by
  by_cases h1 : n ≤ 1048576
  · by_cases h2 : n2 ≤ 1048576
    all_goals
      go_enter Tryd.func9, Tryd.ntmps9
      go_wp2
      go_ret
      exact ⟨rfl, rfl⟩
  · go_enter Tryd.func9, Tryd.ntmps9
    go_wp2
    go_ret
    exact ⟨rfl, rfl⟩

set_option maxHeartbeats 1000000 in
theorem walkB_big (ao ao2 : Option Addr) (n cap n2 cap2 : Nat) (w : World) (hn : n ≤ 9223372036854775807) (hn2 : n2 ≤ 9223372036854775807) (hbig : ¬ n + 8 * n2 ≤ 1048576) :
    Calls Tryd.prog 4 #[.slice ao n cap, .slice ao2 n2 cap2] w fun e w' => e = .returned (.bool true) ∧ Below w.heap.size w w' := by
  by_cases h1 : n + n2 ≤ 1048576
  · by_cases h2 : n2 ≤ 131072
    all_goals
      go_enter Tryd.func4, Tryd.ntmps4
      go_wp2_with (go_at_call 9; refine (bytesB_ok _ _ _ _ _ _ _ h1).mono ?_; rintro e w' ⟨rfl, rfl⟩)
      go_ret
      exact ⟨rfl, Below.refl _ _⟩
  · go_enter Tryd.func4, Tryd.ntmps4
    go_wp2_with (go_at_call 9; refine (bytesB_no _ _ _ _ _ _ _ hn hn2 h1).mono ?_; rintro e w' ⟨rfl, rfl⟩)
    go_ret
    exact ⟨rfl, Below.refl _ _⟩

/-- What an owned row of bytes is as a slice value. -/
theorem own_form {w : World} {B n : Nat} {v : Value} {m : List UInt8} (h : w.ownsRow B 5 1 v n (Lib.byteCells m)) :
    n = m.length ∧ ∃ ao cap, v = .slice ao m.length cap ∧ (m ≠ [] → ∃ g, ao = some ⟨g, 0, none⟩ ∧ Row w g m) := by
  by_cases hm : m = []
  · subst hm
    rcases h.2 with ⟨rfl, h0⟩ | ⟨g, cap, cur, rfl, _⟩
    · exact ⟨h0, none, 0, rfl, fun h => absurd rfl h⟩
    · have : n = 0 := by have := h.1; simp [Lib.byteCells] at this; omega
      subst this
      exact ⟨rfl, some ⟨g, 0, none⟩, cap, rfl, fun h => absurd rfl h⟩
  · obtain ⟨hn, g, cap, rfl, _, hg, hc⟩ := own_bytes h hm
    exact ⟨hn, some ⟨g, 0, none⟩, cap, rfl, fun _ => ⟨g, rfl, hg, hc⟩⟩

/-- One edge more onto the path's text. -/
theorem edge_on (B : Nat) (l : List UInt8) (q : Nat → Int) (k : Nat) (f1 : -9223372036854775808 ≤ q k ∧ q k ≤ 9223372036854775807) (f2 : -9223372036854775808 ≤ q (k + 1) ∧ q (k + 1) ≤ 9223372036854775807) (sv : Value) (w : World)
    (hown : w.ownsRow B 5 1 sv (l ++ txt q k).length (Lib.byteCells (l ++ txt q k))) (hBw : B ≤ w.heap.size) (hlim : (l ++ txt q k).length ≤ 1099511627776)
    (hT : Lib.TabBelow Tryd.prog B w powName .u64 Lib.pow10Tab) :
    Calls Tryd.prog 7 #[sv, .int .i64 (q k), .int .i64 (q (k + 1))] w fun e w' => ∃ v', e = .returned v' ∧
      w'.ownsRow B 5 1 v' (l ++ txt q (k + 1)).length (Lib.byteCells (l ++ txt q (k + 1))) ∧ Below B w w' := by
  refine (edge_bytes B (l ++ txt q k) (q k) (q (k + 1)) f1.1 f1.2 f2.1 f2.2 sv w hown hBw hlim hT).mono ?_
  rintro e w' ⟨g, cap, rfl, hown', _, hnx⟩
  have e1 : l ++ txt q (k + 1) = l ++ txt q k ++ line (q k) (q (k + 1)) := by simp [txt]
  rw [e1]
  exact ⟨_, rfl, hown', hnx⟩

set_option maxHeartbeats 4000000 in
theorem walkB (ao ao2 : Option Addr) (cap n2 cap2 : Nat) (l : List UInt8) (q : Nat → Int) (w : World) (hbound : l.length + 8 * n2 ≤ 1048576) (hca : Came w (.slice ao l.length cap) l)
    (hcell : ∀ j (h : j < l.length), ∃ b off, ao = some ⟨b, off, none⟩ ∧ b < w.heap.size ∧ w.cell? ⟨b, off + j, none⟩ = some (.int .u8 (l[j].toNat : Int)))
    (hcell2 : ∀ j, j < n2 → ∃ b off, ao2 = some ⟨b, off, none⟩ ∧ b < w.heap.size ∧ ∀ i, i < n2 → w.cell? ⟨b, off + i, none⟩ = some (.int .i64 (q i)))
    (hq : Fits q n2)
    (hT : Lib.TabIs Tryd.prog w powName .u64 Lib.pow10Tab) :
    Calls Tryd.prog 4 #[.slice ao l.length cap, .slice ao2 n2 cap2] w fun e w' => e = .returned (.bool true) ∧ Below w.heap.size w w' := by
  have hB := Lib.tabBelow_of_tabIs hT
  have htl := txt_le q n2 hq
  have HCL := Lib.hid hcell
  have HC2 := Lib.hid hcell2
  have HTL := Lib.hid htl
  have HQ := Lib.hid hq
  clear hcell hcell2 htl hq hT
  go_enter Tryd.func4, Tryd.ntmps4
  go_wp2_with (go_at_call 9; refine (bytesB_ok _ _ _ _ _ _ _ (by omega)).mono ?_; rintro e w' ⟨rfl, rfl⟩)
  refine (clone_any _ l _ (by omega) hca).mono ?_
  rintro e w1 ⟨v1, rfl, hown1, hnx1⟩
  go_wp2
  go_loopw [5, 6] (fun out i wr => ∃ k : Nat, k ≤ n2 - 1 ∧ i = .int .i64 (k : Int) ∧ wr.ownsRow w.heap.size 5 1 out (l ++ txt q k).length (Lib.byteCells (l ++ txt q k)) ∧ Below w.heap.size w wr) (fun _ i _ => n2 - (intOf i).toNat)
  case atStart => exact ⟨0, Nat.zero_le _, rfl, by simpa [txt] using hown1, hnx1⟩
  case round =>
    obtain ⟨k, hk, rfl, hown, hnx⟩ := hrel
    by_cases hlt : k + 1 < n2
    · obtain ⟨b, off, hao, hbl, hcb⟩ := HC2.out 0 (by omega)
      subst hao
      have q1 : wr.cell? ⟨b, off + k, none⟩ = some (.int .i64 (q k)) := (hnx.cell (p := ⟨b, off + k, none⟩) hbl).trans (hcb k (by omega))
      have q2 : wr.cell? ⟨b, off + (k + 1), none⟩ = some (.int .i64 (q (k + 1))) := (hnx.cell (p := ⟨b, off + (k + 1), none⟩) hbl).trans (hcb (k + 1) (by omega))
      clear hcb
      have hk1 : (k : Int) < (n2 : Int) := by omega
      have hk2 : (k : Int) + 1 < (n2 : Int) := by omega
      have hk3 : IntKind.i64.wrap ((k : Int) + 1) = (k : Int) + 1 := by rw [IntKind.wrap_i64]; omega
      have hlen : (l ++ txt q k).length ≤ 1099511627776 := by rw [List.length_append]; have := HTL.out k hk; omega
      have f1 := HQ.out k (by omega)
      have f2 := HQ.out (k + 1) (by omega)
      have HE := Lib.hid (edge_on w.heap.size l q k f1 f2 _ wr.drew hown hnx.size hlen (hB.on hnx.drew))
      clear hlen f1 f2
      go_wp2
      go_region_with (go_at_call 7; refine HE.out.mono ?_; rintro e w2 ⟨v2, rfl, hown2, hnx2⟩)
      all_goals
        go_wp2
        go_light
        refine ⟨⟨k + 1, by omega, by go_num, hown2, hnx.drew.trans hnx2⟩, ?_⟩
        simp [intOf]; omega
    · obtain ⟨m, hm⟩ : ∃ m, l ++ txt q k = m := ⟨_, rfl⟩
      rw [hm] at hown
      obtain ⟨_, ao3, cap3, hv3, hrow⟩ := own_form hown
      have hml : l.length ≤ m.length := by rw [← hm, List.length_append]; omega
      have hmu : m.length ≤ 1099511627776 := by rw [← hm, List.length_append]; have := HTL.out k hk; omega
      have HM := Lib.hid hm
      have HR := Lib.hid hrow
      rw [hv3]
      clear hm hrow hown hv3
      have hkn : k = n2 - 1 := by omega
      have HK := Lib.hid hkn
      have hnk : ¬ ((k : Int) + 1 < (n2 : Int)) := by omega
      clear hkn hlt
      go_wp2
      go_loopw [7] (fun i wq => ∃ j : Nat, j ≤ l.length ∧ i = .int .i64 (j : Int) ∧ Below wr.heap.size wr wq) (fun i _ => l.length - (intOf i).toNat)
      case atStart => exact ⟨0, Nat.zero_le _, rfl, Below.refl _ _⟩
      case round =>
        obtain ⟨j, hj, rfl, hwq⟩ := hrel
        by_cases hlt : j < l.length
        · obtain ⟨b, off, hao, hbl, hcb⟩ := HCL.out j hlt
          subst hao
          obtain ⟨g, hao3, hrow⟩ := HR.out (by intro h0; have h1 := congrArg List.length h0; rw [List.length_nil] at h1; omega)
          subst hao3
          have q1 : wr.cell? ⟨b, off + j, none⟩ = some (.int .u8 (l[j].toNat : Int)) := by
            rw [hwq.cell (p := ⟨b, off + j, none⟩) (Nat.lt_of_lt_of_le hbl hnx.size), hnx.cell (p := ⟨b, off + j, none⟩) hbl]
            exact hcb
          have q2 : wr.cell? ⟨g, j, none⟩ = some (.int .u8 (l[j].toNat : Int)) := by
            rw [hwq.cell (p := ⟨g, j, none⟩) hrow.1, hrow.2 j (by omega)]
            simp only [← HM.out, List.getElem_append_left hlt]
          have hk1 : (j : Int) < (l.length : Int) := by omega
          have hk2 : (j : Int) < (m.length : Int) := by omega
          clear hcb hrow
          go_wp2
          go_quiet (fail)
          go_wp2
          go_light
          refine ⟨⟨j + 1, by omega, by go_num, below_drewN hwq _⟩, ?_⟩
          simp [intOf]; omega
        · go_wp2
          clear hlt
          have hb2 : Below w.heap.size w wr := hnx.trans (hwq.mono hnx.size)
          go_loopw [8, 9] (fun ps i wz => ∃ e P : Nat, e ≤ n2 - 1 ∧ i = .int .i64 (e : Int) ∧ ps = .int .i64 (P : Int) ∧ P = l.length + (txt q e).length ∧ Below wr.heap.size wr wz) (fun _ i _ => n2 - (intOf i).toNat)
          case atStart => exact ⟨0, l.length, Nat.zero_le _, rfl, rfl, by simp [txt], Below.refl _ _⟩
          case round =>
            obtain ⟨e, P, he, rfl, rfl, hP, hwz⟩ := hrel
            have HP := Lib.hid hP
            clear hP
            by_cases hlt : e + 1 < n2
            · obtain ⟨b, off, hao, hbl, hcb⟩ := HC2.out 0 (by omega)
              subst hao
              have hb3 : Below w.heap.size w wr := hb2.trans (hwz.mono hb2.size)
              have q1 : wr.cell? ⟨b, off + e, none⟩ = some (.int .i64 (q e)) := (hb3.cell (p := ⟨b, off + e, none⟩) hbl).trans (hcb e (by omega))
              have q2 : wr.cell? ⟨b, off + (e + 1), none⟩ = some (.int .i64 (q (e + 1))) := (hb3.cell (p := ⟨b, off + (e + 1), none⟩) hbl).trans (hcb (e + 1) (by omega))
              obtain ⟨r, hr⟩ := txt_split q e k (by have := HK.out; omega)
              have hmm : m = (l ++ txt q e) ++ (line (q e) (q (e + 1)) ++ r) := by rw [← HM.out, hr, List.append_assoc]
              have hne := line_ne (q e) (q (e + 1))
              obtain ⟨g, hao3, hrow⟩ := HR.out (by intro h0; rw [h0] at hmm; have := (List.append_eq_nil_iff.1 hmm.symm).2; exact hne (List.append_eq_nil_iff.1 this).1)
              subst hao3
              have hrow2 : Row wr g m := (hrow.on hwq hrow.1).on hwz (Nat.lt_of_lt_of_le hrow.1 hwq.size)
              have hPl : P = (l ++ txt q e).length := by rw [HP.out, List.length_append]
              have hat : At wr g 0 P (line (q e) (q (e + 1))) := by
                have h1 := hrow2.at
                rw [hmm] at h1
                have h2 := h1.right.left
                rwa [Nat.zero_add, ← hPl] at h2
              have hPm : P + (line (q e) (q (e + 1))).length ≤ m.length := by rw [hPl, hmm]; simp only [List.length_append]; omega
              have f1 := HQ.out e (by omega)
              have f2 := HQ.out (e + 1) (by omega)
              have HE := Lib.hid (fun nq : Nat => lineIs_any g 0 cap3 m.length P (q e) (q (e + 1)) (wr.drewN nq) hmu f1.1 f1.2 f2.1 f2.2 hat hPm)
              clear hcb hrow hrow2 hat hmm hr hne f1 f2 hPl
              have hk1 : (e : Int) < (n2 : Int) := by omega
              have hk2 : (e : Int) + 1 < (n2 : Int) := by omega
              have hk3 : IntKind.i64.wrap ((e : Int) + 1) = (e : Int) + 1 := by rw [IntKind.wrap_i64]; omega
              go_wp2
              go_quiet ((go_at_call 8; exact Calls.quiet_of_same (HE.out _)))
              go_wp2
              go_light
              have hP2 : P + (line (q e) (q (e + 1))).length = l.length + (txt q (e + 1)).length := by
                rw [HP.out]; simp only [txt, List.length_append]; omega
              refine ⟨⟨e + 1, P + (line (q e) (q (e + 1))).length, by omega, by go_num, by go_num, hP2, below_drewN hwz _⟩, ?_⟩
              simp [intOf]; omega
            · have hnk2 : ¬ ((e : Int) + 1 < (n2 : Int)) := by omega
              have hPe : P = m.length := by
                rw [HP.out, ← HM.out, List.length_append, show e = k by have := HK.out; omega]
              subst hPe
              go_wp2
              go_ret
              exact ⟨rfl, hb2.trans (hwz.mono hb2.size)⟩
end Go.Proofs.Qxb6619442aDoor
