import Derived.Test.Qxb6617947aScene
import Derived.Maps.RangeWalk
namespace Go.Proofs.Qxb6617947a
open Go.RowKit

theorem int_i64 {a b : Int} (h : a = b) : Value.int .i64 a = .int .i64 b := by rw [h]

set_option maxHeartbeats 4000000 in
set_option maxRecDepth 100000 in
theorem main_walk (bs os bd od bk ok bw ow made n s0 d0 : Nat) (K W : Nat → Int) (w : World) (hn : n ≤ 512) (hm : made ≤ 512) (hs : s0 ≤ n) (hd : d0 ≤ made)
    (cs : w.cell? ⟨bs, os, none⟩ = some (.int .i64 (s0 : Int))) (cd : w.cell? ⟨bd, od, none⟩ = some (.int .i64 (d0 : Int)))
    (ck : ∀ j, j < 512 → w.cell? ⟨bk, ok + j, none⟩ = some (.int .u64 (K j))) (cw : ∀ j, j < 512 → w.cell? ⟨bw, ow + j, none⟩ = some (.int .u64 (W j))) :
    Calls Try.prog 3 #[.pointer (some ⟨bs, os, none⟩), .pointer (some ⟨bd, od, none⟩), .int .i64 (made : Int), .int .i64 (n : Int), .pointer (some ⟨bk, ok, none⟩), .pointer (some ⟨bw, ow, none⟩)] w fun e w' =>
      e = .returned (.bool true) ∧ Below w.heap.size w w' := by
  have HCK := hide ck
  have HCW := hide cw
  clear ck cw
  have hn' : (n : Int) ≤ 512 := by omega
  have hm' : (made : Int) ≤ 512 := by omega
  have hs' : (s0 : Int) ≤ (n : Int) := by omega
  have hd' : (d0 : Int) ≤ (made : Int) := by omega
  have z1 : decide ((n : Int) < 0) = false := by rw [decide_eq_false_iff_not]; omega
  have z2 : decide ((512 : Int) < (n : Int)) = false := by rw [decide_eq_false_iff_not]; omega
  have z3 : decide ((made : Int) < 0) = false := by rw [decide_eq_false_iff_not]; omega
  have z4 : decide ((512 : Int) < (made : Int)) = false := by rw [decide_eq_false_iff_not]; omega
  have z5 : decide ((s0 : Int) < 0) = false := by rw [decide_eq_false_iff_not]; omega
  have z6 : decide (n < s0) = false := by rw [decide_eq_false_iff_not]; omega
  have z7 : decide ((d0 : Int) < 0) = false := by rw [decide_eq_false_iff_not]; omega
  have z8 : decide (made < d0) = false := by rw [decide_eq_false_iff_not]; omega
  have hlk : ∀ j, j < 512 → bk < w.heap.size := fun j hj => World.block_lt_of_cell? w ⟨bk, ok + j, none⟩ (HCK.out j hj)
  have hlw : ∀ j, j < 512 → bw < w.heap.size := fun j hj => World.block_lt_of_cell? w ⟨bw, ow + j, none⟩ (HCW.out j hj)
  have hbk := hlk 0 (by omega)
  have hbw := hlw 0 (by omega)
  clear hlk hlw
  go_enter Try.func3, Try.ntmps3
  go_wp2
  clear z1 z2 z3 z4 z5 z6 z7 z8 cs cd
  go_loopw [15] (fun ti wr => ∃ p : Nat, s0 ≤ p ∧ p ≤ n ∧ ti = .int .i64 (p : Int) ∧ (∀ j, s0 ≤ j → j + 1 ≤ p → K j / 65536 ≤ K (j + 1) / 65536) ∧ Below w.heap.size w wr ∧ wr.heap.size = w.heap.size) (fun ti _ => n - (intOf ti).toNat)
  case atStart => exact ⟨s0, Nat.le_refl _, hs, rfl, fun j h1 h2 => by omega, Below.refl _ _, rfl⟩
  case round =>
    obtain ⟨p, hp1, hp2, rfl, hsrt, hwb, hsz⟩ := hrel
    have HS := hide hsrt
    have HZ := hide hsz
    clear hsrt hsz
    by_cases hlt : p + 1 < n
    · have q1 : wr.cell? ⟨bk, ok + p, none⟩ = some (.int .u64 (K p)) := (hwb.cell (p := ⟨bk, ok + p, none⟩) hbk).trans (HCK.out p (by omega))
      have q2 : wr.cell? ⟨bk, ok + (p + 1), none⟩ = some (.int .u64 (K (p + 1))) := (hwb.cell (p := ⟨bk, ok + (p + 1), none⟩) hbk).trans (HCK.out (p + 1) (by omega))
      have i1 : (p : Int) < 512 := by omega
      have i2 : (p : Int) + 1 < 512 := by omega
      have i3 : (p : Int) + 1 < (n : Int) := by omega
      have i4 : IntKind.i64.wrap ((p : Int) + 1) = (p : Int) + 1 := by rw [IntKind.wrap_i64]; omega
      by_cases hc : K (p + 1) / 65536 < K p / 65536
      · go_wp2
        go_quiet (fail)
        go_wp2
        go_ret
        exact ⟨rfl, below_drewN hwb _⟩
      · go_wp2
        go_quiet (fail)
        go_wp2
        go_light
        refine ⟨⟨p + 1, by omega, by omega, by go_num, fun j h1 h2 => ?_, below_drewN hwb _, HZ.out⟩, ?_⟩
        · by_cases e : j = p
          · subst e; omega
          · exact HS.out j h1 (by omega)
        · simp [intOf]; omega
    · have i3 : ¬ ((p : Int) + 1 < (n : Int)) := by omega
      have hso := sorted_of (fun j => K j / 65536) s0 n (fun j h1 h2 => HS.out j h1 (by omega))
      have HSK := hide hso
      clear hso HS
      go_wp2
      clear i3 hlt
      go_loopw [16] (fun ti wq => ∃ p : Nat, d0 ≤ p ∧ p ≤ made ∧ ti = .int .i64 (p : Int) ∧ (∀ j, d0 ≤ j → j + 1 ≤ p → W j ≤ W (j + 1)) ∧ Below w.heap.size w wq ∧ wq.heap.size = w.heap.size) (fun ti _ => made - (intOf ti).toNat)
      case atStart => exact ⟨d0, Nat.le_refl _, hd, rfl, fun j h1 h2 => by omega, hwb, HZ.out⟩
      case round =>
        clear hwb HZ
        obtain ⟨q, hq1, hq2, rfl, hsrt, hwb, hsz⟩ := hrel
        have HS := hide hsrt
        have HZ := hide hsz
        clear hsrt hsz
        by_cases hlt : q + 1 < made
        · have q1 : wr.cell? ⟨bw, ow + q, none⟩ = some (.int .u64 (W q)) := (hwb.cell (p := ⟨bw, ow + q, none⟩) hbw).trans (HCW.out q (by omega))
          have q2 : wr.cell? ⟨bw, ow + (q + 1), none⟩ = some (.int .u64 (W (q + 1))) := (hwb.cell (p := ⟨bw, ow + (q + 1), none⟩) hbw).trans (HCW.out (q + 1) (by omega))
          have i1 : (q : Int) < 512 := by omega
          have i2 : (q : Int) + 1 < 512 := by omega
          have i3 : (q : Int) + 1 < (made : Int) := by omega
          have i4 : IntKind.i64.wrap ((q : Int) + 1) = (q : Int) + 1 := by rw [IntKind.wrap_i64]; omega
          by_cases hc : W (q + 1) < W q
          · go_wp2
            go_quiet (fail)
            go_wp2
            go_ret
            exact ⟨rfl, below_drewN hwb _⟩
          · go_wp2
            go_quiet (fail)
            go_wp2
            go_light
            refine ⟨⟨q + 1, by omega, by omega, by go_num, fun j h1 h2 => ?_, below_drewN hwb _, HZ.out⟩, ?_⟩
            · by_cases e : j = q
              · subst e; omega
              · exact HS.out j h1 (by omega)
            · simp [intOf]; omega
        · have i3 : ¬ ((q : Int) + 1 < (made : Int)) := by omega
          have hso := sorted_of W d0 made (fun j h1 h2 => HS.out j h1 (by omega))
          have HO : Hid (Ord (fun j => K j / 65536) W s0 n d0 made) := ⟨HSK.out, hso⟩
          clear hso HS HSK
          -- the arrays as values
          obtain ⟨cK, hcK⟩ : ∃ cK, arr512 K = cK := ⟨_, rfl⟩
          obtain ⟨cW, hcW⟩ : ∃ cW, arr512 W = cW := ⟨_, rfl⟩
          have lk : ∀ v : World, Below w.heap.size w v → (Instr.loadAt 26 (.pointer (some ⟨bk, ok, none⟩))).run Try.prog v = .ok (.agg cK) v := fun v hv => by
            rw [← hcK]; exact load512 v bk ok K (fun j hj => (hv.cell (p := ⟨bk, ok + j, none⟩) hbk).trans (HCK.out j hj))
          have lw : ∀ v : World, Below w.heap.size w v → (Instr.loadAt 26 (.pointer (some ⟨bw, ow, none⟩))).run Try.prog v = .ok (.agg cW) v := fun v hv => by
            rw [← hcW]; exact load512 v bw ow W (fun j hj => (hv.cell (p := ⟨bw, ow + j, none⟩) hbw).trans (HCW.out j hj))
          have LK := hide lk
          have LW := hide lw
          have EK := hide hcK
          have EW := hide hcW
          clear lk lw hcK hcW
          have hz26 := zero26
          have hz27 := zero27
          have skA : (Instr.storeAt 26 (.pointer (some ⟨wr.heap.size, 0, none⟩)) (.agg cK)).run Try.prog (wr.alloc (.cells zeros512 26)) = .ok () (wr.alloc (.cells cK 26)) := by
            rw [← EK.out]; exact store512 wr K
          have skB : (Instr.storeAt 26 (.pointer (some ⟨wr.heap.size + 1, 0, none⟩)) (.agg cW)).run Try.prog ((wr.alloc (.cells cK 26)).alloc (.cells zeros512 26)) = .ok () ((wr.alloc (.cells cK 26)).alloc (.cells cW 26)) := by
            rw [← EW.out]
            have := store512 (wr.alloc (.cells cK 26)) W
            rwa [show (wr.alloc (.cells cK 26)).heap.size = wr.heap.size + 1 by simp] at this
          have SA := hide skA
          have SB := hide skB
          clear skA skB
          have hwb1 : Below w.heap.size w (wr.alloc (.cells cK 26)) := hwb.alloc (by rw [HZ.out]; exact Nat.le_refl _) _
          have HB1 := hide hwb1
          clear hwb1
          go_wp2_with (first | (refine wpList_load_arr rfl 26 _ rfl bk ok rfl cK (LK.out _ hwb) ?_) | (refine wpList_store_arr rfl 26 _ _ rfl wr.heap.size rfl cK rfl SA.out ?_) | (refine wpList_load_arr rfl 26 _ rfl bw ow rfl cW (LW.out _ HB1.out) ?_) | (refine wpList_store_arr rfl 26 _ _ rfl (wr.heap.size + 1) rfl cW rfl SB.out ?_))
          have hsc := Sc.start w wr K W s0 d0 hwb HZ.out
          rw [EK.out, EW.out] at hsc
          obtain ⟨V, hV⟩ : ∃ V, (((((wr.alloc (.cells cK 26)).alloc (.cells cW 26)).alloc (.cells #[.int .i64 (s0 : Int)] 3)).alloc (.cells #[.int .i64 (d0 : Int)] 3)).alloc (.cells zeros1024 27)) = V := ⟨_, rfl⟩
          rw [hV] at hsc ⊢
          clear hV
          obtain ⟨N4, hN4⟩ : ∃ N4, wr.heap.size + 1 + 1 + 1 + 1 = N4 := ⟨_, rfl⟩
          rw [hN4] at hsc ⊢
          obtain ⟨N3, hN3⟩ : ∃ N3, wr.heap.size + 1 + 1 + 1 = N3 := ⟨_, rfl⟩
          rw [hN3] at hsc ⊢
          obtain ⟨N2, hN2⟩ : ∃ N2, wr.heap.size + 1 + 1 = N2 := ⟨_, rfl⟩
          rw [hN2] at hsc ⊢
          obtain ⟨N1, hN1⟩ : ∃ N1, wr.heap.size + 1 = N1 := ⟨_, rfl⟩
          rw [hN1] at hsc ⊢
          obtain ⟨N0, hN0⟩ : ∃ N0, wr.heap.size = N0 := ⟨_, rfl⟩
          rw [hN0] at hsc ⊢
          have m0 : w.heap.size ≤ N0 := by have := HZ.out; omega
          have m1 : N0 < N1 := by omega
          have m2 : N1 < N2 := by omega
          have m3 : N2 < N3 := by omega
          have m4 : N3 < N4 := by omega
          have HV := hide hsc
          clear hsc hN0 hN1 hN2 hN3 hN4 SA SB LK LW HB1 HZ hwb hz26 hz27 i3 hlt
          go_loopw [22] (fun ti wv => ∃ (i : Nat) (A : Nat → Int), s0 ≤ i ∧ i ≤ n ∧ ti = .int .i64 (i : Int) ∧ Sc w N0 N1 N2 N3 N4 K W s0 d0 A wv ∧ ∀ t, s0 ≤ t → t < i → A (rankS (fun j => K j / 65536) W s0 d0 made t) = (t : Int)) (fun ti _ => n - (intOf ti).toNat)
          case atStart => exact ⟨s0, _, Nat.le_refl _, hs, rfl, HV.out, fun t h1 h2 => by omega⟩
          case round =>
            clear HV
            obtain ⟨i, A, hi1, hi2, rfl, hsc, hA⟩ := hrel
            have HV := hide hsc
            have HA := hide hA
            clear hsc hA
            by_cases hlt : i < n
            · have q1 : wr.cell? ⟨bk, ok + i, none⟩ = some (.int .u64 (K i)) := (HV.out.bel.cell (p := ⟨bk, ok + i, none⟩) hbk).trans (HCK.out i (by omega))
              have i1 : (i : Int) < 512 := by omega
              have i2 : (i : Int) < (n : Int) := by omega
              have i4 : (s0 : Int) ≤ (i : Int) := by omega
              go_wp2
              go_loop [24, 25] (fun tr tq => ∃ R q : Nat, d0 ≤ q ∧ q ≤ made ∧ R ≤ 1024 ∧ tq = .int .i64 (q : Int) ∧ tr = .int .i64 (R : Int) ∧ R = (i - s0) + cnt (fun t => decide (W t < K i / 65536)) d0 (q - d0)) (fun _ tq => made - (intOf tq).toNat)
              case atStart =>
                go_light
                exact ⟨i - s0, d0, Nat.le_refl _, hd, by omega, rfl, int_i64 (by omega), by rw [Nat.sub_self]; rfl⟩
              case round =>
                obtain ⟨R, g, hg1, hg2, hR, rfl, rfl, hRe⟩ := hrel
                have HR := hide hRe
                clear hRe
                by_cases hgm : g < made
                · have q2 : wr.cell? ⟨bw, ow + g, none⟩ = some (.int .u64 (W g)) := (HV.out.bel.cell (p := ⟨bw, ow + g, none⟩) hbw).trans (HCW.out g (by omega))
                  have j1 : (g : Int) < 512 := by omega
                  have j2 : (g : Int) < (made : Int) := by omega
                  have hR2 : R + 1 ≤ 1024 := by
                    rw [HR.out]
                    have := cnt_le (fun t => decide (W t < K i / 65536)) d0 (g - d0)
                    omega
                  have hcs : cnt (fun t => decide (W t < K i / 65536)) d0 (g + 1 - d0) = cnt (fun t => decide (W t < K i / 65536)) d0 (g - d0) + if W g < K i / 65536 then 1 else 0 := by
                    rw [show g + 1 - d0 = (g - d0) + 1 by omega]
                    simp only [cnt, decide_eq_true_eq]
                    rw [show d0 + (g - d0) = g by omega]
                  have HC := hide hcs
                  clear hcs
                  by_cases hc : W g < K i / 65536
                  · go_wp2
                    go_light
                    refine ⟨⟨R + 1, g + 1, by omega, by omega, hR2, by go_num, by go_num, ?_⟩, ?_⟩
                    · rw [HC.out, if_pos hc]; have := HR.out; omega
                    · simp [intOf]; omega
                  · go_wp2
                    go_light
                    refine ⟨⟨R, g + 1, by omega, by omega, hR, by go_num, rfl, ?_⟩, ?_⟩
                    · rw [HC.out, if_neg hc]; have := HR.out; omega
                    · simp [intOf]; omega
                · have hRk : R = rankS (fun j => K j / 65536) W s0 d0 made i := by
                    rw [HR.out, show g = made by omega]; rfl
                  have hR4 : R < 1024 := by rw [hRk]; exact rankS_le i hlt hn hm
                  have HRK := hide hRk
                  clear hRk
                  have q3 : wr.cell? ⟨N4, R, none⟩ = some (.int .i64 (A R)) := HV.out.ce R hR4
                  have q4 : wr.frozen? ⟨N4, R, none⟩ = false := HV.out.fe R
                  have j1 : (R : Int) < 1024 := by omega
                  have j2 : ¬ ((g : Int) < (made : Int)) := by omega
                  go_wp2
                  go_light
                  refine ⟨⟨i + 1, _, by omega, by omega, by go_num, HV.out.put (by omega) (by omega) (by omega) (by omega) (by omega) R hR4 (i : Int), fun t h1 h2 => ?_⟩, ?_⟩
                  · rw [HRK.out]
                    by_cases e : t = i
                    · subst e; rw [if_pos rfl]
                    · have := rankS_lt HO.out h1 (show t < i by omega) hlt
                      rw [if_neg (by omega)]
                      exact HA.out t h1 (by omega)
                  · simp [intOf]; omega
            · have i5 : ¬ ((i : Int) < (n : Int)) := by omega
              have hA2 : ∀ t, s0 ≤ t → t < n → A (rankS (fun j => K j / 65536) W s0 d0 made t) = (t : Int) := fun t h1 h2 => HA.out t h1 (by omega)
              have HA2 := hide hA2
              clear hA2 HA
              go_wp2
              clear i5 hlt
              go_loopw [26] (fun tq wv => ∃ (g : Nat) (A : Nat → Int), d0 ≤ g ∧ g ≤ made ∧ tq = .int .i64 (g : Int) ∧ Sc w N0 N1 N2 N3 N4 K W s0 d0 A wv ∧ (∀ t, s0 ≤ t → t < n → A (rankS (fun j => K j / 65536) W s0 d0 made t) = (t : Int)) ∧
                  ∀ t, d0 ≤ t → t < g → A (rankN (fun j => K j / 65536) W s0 n d0 t) = (n : Int) + (t : Int)) (fun tq _ => made - (intOf tq).toNat)
              case atStart => exact ⟨d0, A, Nat.le_refl _, hd, rfl, HV.out, HA2.out, fun t h1 h2 => by omega⟩
              case round =>
                clear HV HA2
                obtain ⟨g, A, hg1, hg2, rfl, hsc, hA, hA3⟩ := hrel
                have HV := hide hsc
                have HA := hide hA
                have HA3 := hide hA3
                clear hsc hA hA3
                by_cases hlt : g < made
                · have j1 : (g : Int) < 512 := by omega
                  have j2 : (g : Int) < (made : Int) := by omega
                  have j4 : (d0 : Int) ≤ (g : Int) := by omega
                  go_wp2
                  go_loopw [27, 28] (fun tr ti wv => ∃ R e : Nat, s0 ≤ e ∧ e ≤ n ∧ R ≤ 1024 ∧ ti = .int .i64 (e : Int) ∧ tr = .int .i64 (R : Int) ∧ R = (g - d0) + cnt (fun t => decide (K t / 65536 ≤ W g)) s0 (e - s0) ∧ Sc w N0 N1 N2 N3 N4 K W s0 d0 A wv) (fun _ ti _ => n - (intOf ti).toNat)
                  case atStart =>
                    go_light
                    exact ⟨g - d0, s0, Nat.le_refl _, hs, by omega, rfl, int_i64 (by omega), by rw [Nat.sub_self]; rfl, HV.out⟩
                  case round =>
                    clear HV
                    obtain ⟨R, e, he1, he2, hR, rfl, rfl, hRe, hsc⟩ := hrel
                    have HR := hide hRe
                    have HV := hide hsc
                    clear hRe hsc
                    by_cases hen : e < n
                    · have q1 : wr.cell? ⟨bk, ok + e, none⟩ = some (.int .u64 (K e)) := (HV.out.bel.cell (p := ⟨bk, ok + e, none⟩) hbk).trans (HCK.out e (by omega))
                      have q2 : wr.cell? ⟨bw, ow + g, none⟩ = some (.int .u64 (W g)) := (HV.out.bel.cell (p := ⟨bw, ow + g, none⟩) hbw).trans (HCW.out g (by omega))
                      have k1 : (e : Int) < 512 := by omega
                      have k2 : (e : Int) < (n : Int) := by omega
                      have hR2 : R + 1 ≤ 1024 := by
                        rw [HR.out]
                        have := cnt_le (fun t => decide (K t / 65536 ≤ W g)) s0 (e - s0)
                        omega
                      have hcs : cnt (fun t => decide (K t / 65536 ≤ W g)) s0 (e + 1 - s0) = cnt (fun t => decide (K t / 65536 ≤ W g)) s0 (e - s0) + if K e / 65536 ≤ W g then 1 else 0 := by
                        rw [show e + 1 - s0 = (e - s0) + 1 by omega]
                        simp only [cnt, decide_eq_true_eq]
                        rw [show s0 + (e - s0) = e by omega]
                      have HC := hide hcs
                      clear hcs
                      by_cases hc : K e / 65536 ≤ W g
                      · go_wp2
                        go_quiet (fail)
                        go_wp2
                        go_light
                        refine ⟨⟨R + 1, e + 1, by omega, by omega, hR2, by go_num, by go_num, ?_, HV.out.drewN _⟩, ?_⟩
                        · rw [HC.out, if_pos hc]; have := HR.out; omega
                        · simp [intOf]; omega
                      · have hd3 : decide (K e / 65536 ≤ W g) = false := by rw [decide_eq_false_iff_not]; exact hc
                        go_wp2
                        go_quiet (fail)
                        go_wp2
                        go_light
                        refine ⟨⟨R, e + 1, by omega, by omega, hR, by go_num, rfl, ?_, HV.out.drewN _⟩, ?_⟩
                        · rw [HC.out, if_neg (by omega)]; have := HR.out; omega
                        · simp [intOf]; omega
                    · have hRk : R = rankN (fun j => K j / 65536) W s0 n d0 g := by
                        rw [HR.out, show e = n by omega]; rfl
                      have hR4 : R < 1024 := by rw [hRk]; exact rankN_le g hlt hn hm
                      have HRK := hide hRk
                      clear hRk
                      have q3 : wr.cell? ⟨N4, R, none⟩ = some (.int .i64 (A R)) := HV.out.ce R hR4
                      have q4 : wr.frozen? ⟨N4, R, none⟩ = false := HV.out.fe R
                      have k1 : (R : Int) < 1024 := by omega
                      have k2 : ¬ ((e : Int) < (n : Int)) := by omega
                      go_wp2
                      go_light
                      refine ⟨⟨g + 1, _, by omega, by omega, by go_num, HV.out.put (by omega) (by omega) (by omega) (by omega) (by omega) R hR4 ((n : Int) + (g : Int)), fun t h1 h2 => ?_, fun t h1 h2 => ?_⟩, ?_⟩
                      · have := rank_ne HO.out h1 h2 hg1 hlt
                        rw [HRK.out, if_neg this]
                        exact HA.out t h1 h2
                      · rw [HRK.out]
                        by_cases e : t = g
                        · subst e; rw [if_pos rfl]
                        · have := rankN_lt HO.out h1 (show t < g by omega) hlt
                          rw [if_neg (by omega)]
                          exact HA3.out t h1 (by omega)
                      · simp [intOf]; omega
                · have j5 : ¬ ((g : Int) < (made : Int)) := by omega
                  have hA4 : ∀ t, d0 ≤ t → t < made → A (rankN (fun j => K j / 65536) W s0 n d0 t) = (n : Int) + (t : Int) := fun t h1 h2 => HA3.out t h1 (by omega)
                  have HA4 := hide hA4
                  clear hA4 HA3
                  go_wp2
                  clear j5 hlt
                  go_loopw [30] (fun tj wv => ∃ s d : Nat, tj = .int .i64 (((s - s0) + (d - d0) : Nat) : Int) ∧ Mrg (fun j => K j / 65536) W s0 n d0 made s d ∧ Sc w N0 N1 N2 N3 N4 K W s d A wv) (fun tj _ => 1025 - (intOf tj).toNat)
                  case atStart =>
                    go_light
                    exact ⟨s0, d0, int_i64 (by omega), Mrg.start hs hd, HV.out⟩
                  case round =>
                    clear HV
                    obtain ⟨s, d, rfl, hmg, hsc⟩ := hrel
                    have HV := hide hsc
                    have HM := hide hmg
                    have b1 := hmg.s1
                    have b2 := hmg.s2
                    have b3 := hmg.d1
                    have b4 := hmg.d2
                    clear hsc hmg
                    obtain ⟨J, hJ⟩ : ∃ J, (s - s0) + (d - d0) = J := ⟨_, rfl⟩
                    rw [hJ]
                    have HJ := hide hJ
                    have c1 := HV.out.cs
                    have c2 := HV.out.cd
                    have c3 := HV.out.fs
                    have c4 := HV.out.fd
                    by_cases hpk : s < n ∧ (d = made ∨ (d < made ∧ K s / 65536 ≤ W d))
                    · obtain ⟨hsn, hor⟩ := hpk
                      have hst := HM.out.sym HO.out hsn hor
                      have hor2 : d = made ∨ (d < made ∧ K s / 65536 ≤ W d ∧ wr.cell? ⟨N1, d, none⟩ = some (.int .u64 (W d))) := by
                        rcases hor with h | h
                        · exact .inl h
                        · exact .inr ⟨h.1, h.2, HV.out.cw d (by omega)⟩
                      have hcall := zz_sym N2 N3 N0 N1 s d made n (K s) (W d) wr hsn hn hm hor2 c1 c2 (HV.out.ck s (by omega)) c3 (by omega)
                      have HCL := hide hcall
                      have HST := hide hst
                      clear hcall hst c1 c2 c3 c4 hor hor2
                      have l1 : (J : Int) < (n : Int) - (s0 : Int) + ((made : Int) - (d0 : Int)) := by omega
                      have l2 : (J : Int) < 1024 := by omega
                      have l3 : (s : Int) < (n : Int) := by omega
                      have l4 : (s : Int) < 512 := by omega
                      clear hJ
                      go_wp2_with fail
                      refine HCL.out.mono ?_
                      rintro e w' ⟨rfl, hstp⟩
                      have hsc2 := HV.out.sym hstp (by omega) (by omega) (by omega) (by omega) (by omega)
                      have HV2 := hide hsc2
                      have q1 : w'.cell? ⟨N4, J, none⟩ = some (.int .i64 (s : Int)) := by
                        rw [hsc2.ce J (by omega), ← HJ.out, ← HST.out.1, HA.out s b1 hsn]
                      have q2 : w'.cell? ⟨bk, ok + s, none⟩ = some (.int .u64 (K s)) := (hsc2.bel.cell (p := ⟨bk, ok + s, none⟩) hbk).trans (HCK.out s (by omega))
                      clear hsc2 hstp HV HCL
                      go_wp2
                      go_light
                      refine ⟨⟨s + 1, d, int_i64 (by have := HJ.out; omega), HST.out.2, HV2.out⟩, ?_⟩
                      simp [intOf]; omega
                    · by_cases hend : s = n ∧ d = made
                      · obtain ⟨hsn, hdm⟩ := hend
                        have l1 : ¬ ((J : Int) < (n : Int) - (s0 : Int) + ((made : Int) - (d0 : Int))) := by omega
                        rw [hsn] at c1
                        rw [hdm] at c2
                        clear hJ hsn hdm hpk c3 c4
                        have hC : ∀ v : World, (∃ m, v = wr.drewN m) → Sc w N0 N1 N2 N3 N4 K W s d A v := fun v hv => by
                          obtain ⟨m, rfl⟩ := hv
                          exact HV.out.drewN m
                        have lk0 : ∀ v : World, (∃ m, v = wr.drewN m) → (Instr.loadAt 26 (.pointer (some ⟨N0, 0, none⟩))).run Try.prog v = .ok (.agg cK) v := fun v hv => by
                          rw [← EK.out]; exact load512 v N0 0 K (fun j hj => by rw [Nat.zero_add]; exact (hC v hv).ck j hj)
                        have lw0 : ∀ v : World, (∃ m, v = wr.drewN m) → (Instr.loadAt 26 (.pointer (some ⟨N1, 0, none⟩))).run Try.prog v = .ok (.agg cW) v := fun v hv => by
                          rw [← EW.out]; exact load512 v N1 0 W (fun j hj => by rw [Nat.zero_add]; exact (hC v hv).cw j hj)
                        have lk1 : ∀ v : World, (∃ m, v = wr.drewN m) → (Instr.loadAt 26 (.pointer (some ⟨bk, ok, none⟩))).run Try.prog v = .ok (.agg cK) v := fun v hv => by
                          rw [← EK.out]; exact load512 v bk ok K (fun j hj => ((hC v hv).bel.cell (p := ⟨bk, ok + j, none⟩) hbk).trans (HCK.out j hj))
                        have lw1 : ∀ v : World, (∃ m, v = wr.drewN m) → (Instr.loadAt 26 (.pointer (some ⟨bw, ow, none⟩))).run Try.prog v = .ok (.agg cW) v := fun v hv => by
                          rw [← EW.out]; exact load512 v bw ow W (fun j hj => ((hC v hv).bel.cell (p := ⟨bw, ow + j, none⟩) hbw).trans (HCW.out j hj))
                        have LK0 := hide lk0
                        have LW0 := hide lw0
                        have LK1 := hide lk1
                        have LW1 := hide lw1
                        clear hC lk0 lw0 lk1 lw1
                        go_wp2
                        refine wp_region_quiet_lit (by kernel_rfl) (by kernel_rfl) ?_
                        iterate 9 (go_big_quiet_step (fail))
                        go_big_quiet_want
                        refine quiet_load_arr 26 _ rfl N0 0 rfl cK LK0.out ?_
                        go_big_quiet_on
                        go_frame
                        iterate 2 (go_big_quiet_step (fail))
                        go_big_quiet_want
                        refine quiet_load_arr 26 _ rfl bk ok rfl cK LK1.out ?_
                        go_big_quiet_on
                        go_frame
                        go_big_quiet_want
                        refine quiet_eql_arr _ _ rfl K cK EK.out rfl rfl ?_
                        go_big_quiet_on
                        go_frame
                        iterate 2 (go_big_quiet_step (fail))
                        go_big_quiet_want
                        refine quiet_load_arr 26 _ rfl N1 0 rfl cW LW0.out ?_
                        go_big_quiet_on
                        go_frame
                        iterate 2 (go_big_quiet_step (fail))
                        go_big_quiet_want
                        refine quiet_load_arr 26 _ rfl bw ow rfl cW LW1.out ?_
                        go_big_quiet_on
                        go_frame
                        go_big_quiet_want
                        refine quiet_eql_arr _ _ rfl W cW EW.out rfl rfl ?_
                        go_big_quiet_on
                        go_frame
                        iterate 2 (go_big_quiet_step (fail))
                        refine wpQuiet_nil ?_
                        intro _ hw'
                        obtain ⟨nq, hw''⟩ := hw'
                        subst hw''
                        go_wp2
                        go_ret
                        exact ⟨rfl, below_drewN HV.out.bel _⟩
                      · have hdm : d < made := by omega
                        have hor : s = n ∨ (s < n ∧ W d < K s / 65536) := by omega
                        have hst := HM.out.node HO.out hdm hor
                        have hor2 : s = n ∨ (s < n ∧ W d < K s / 65536 ∧ wr.cell? ⟨N0, s, none⟩ = some (.int .u64 (K s))) := by
                          rcases hor with h | h
                          · exact .inl h
                          · exact .inr ⟨h.1, h.2, HV.out.ck s (by omega)⟩
                        have hcall := zz_node N2 N3 N0 N1 s d made n (K s) (W d) wr hdm hn hm hor2 c1 c2 (HV.out.cw d (by omega)) c4 (by omega)
                        have HCL := hide hcall
                        have HST := hide hst
                        clear hcall hst c1 c2 c3 c4 hor hor2 hpk hend
                        have l1 : (J : Int) < (n : Int) - (s0 : Int) + ((made : Int) - (d0 : Int)) := by omega
                        have l2 : (J : Int) < 1024 := by omega
                        have l3 : ¬ ((n : Int) + (d : Int) < (n : Int)) := by omega
                        have l4 : (d : Int) < 512 := by omega
                        have l5 : (n : Int) + (d : Int) - (n : Int) = (d : Int) := by omega
                        clear hJ
                        go_wp2_with fail
                        refine HCL.out.mono ?_
                        rintro e w' ⟨rfl, hstp⟩
                        have hsc2 := HV.out.node hstp (by omega) (by omega) (by omega) (by omega) (by omega)
                        have HV2 := hide hsc2
                        have q1 : w'.cell? ⟨N4, J, none⟩ = some (.int .i64 ((n : Int) + (d : Int))) := by
                          rw [hsc2.ce J (by omega), ← HJ.out, ← HST.out.1, HA4.out d b3 hdm]
                        have q2 : w'.cell? ⟨bw, ow + d, none⟩ = some (.int .u64 (W d)) := (hsc2.bel.cell (p := ⟨bw, ow + d, none⟩) hbw).trans (HCW.out d (by omega))
                        clear hsc2 hstp HV HCL
                        go_wp2
                        go_light
                        refine ⟨⟨s, d + 1, int_i64 (by have := HJ.out; omega), HST.out.2, HV2.out⟩, ?_⟩
                        simp [intOf]; omega
end Go.Proofs.Qxb6617947a
