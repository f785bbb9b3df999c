import Derived.Test.Qxb6619443aRows
import Derived.WalkKit
import Derived.ProofKit
import Derived.OpenShut
import Derived.ShutString
import Derived.Test.Qxb6619443aIntRoot
namespace Go.Proofs.Qxb6619443a.fnIntRootComposes
open Go.ChangeShapes Go.WideShapes Go.ChangeAt Go.RowKit
open Go.ChangeMaps (open_string shut_string)
set_option linter.unusedVariables false      -- a walk need not use every 'w<i>' (that an integer argument fits its kind)

theorem own : ownKnob Try.prog.godebug = none := by kernel_rfl

/-! ### STEP 1: THE WALK: the Go text returns true. 'Grown w w'': the world has at most new blocks (Derived/RowKit3.lean). Part the cases AHEAD of 'go_enter' where a test parts the walk; take each callee by a contract of your own. -/
/-- There is always an answer. -/
theorem root_is (n v : Nat) : ∃ r ok, RootIs n v r ok := by
  by_cases h : ∃ b, 1 ≤ b ∧ b ^ v = n
  · obtain ⟨b, h1, h2⟩ := h
    exact ⟨b, true, .inl ⟨rfl, h1, h2⟩⟩
  · exact ⟨0, false, .inr ⟨rfl, rfl, fun b h1 h2 => h ⟨b, h1, h2⟩⟩⟩

theorem floorRoot_int (ni vi : Int) (n v : Nat) (w : World) (hni : ni = (n : Int)) (hvi : vi = (v : Int)) (hv1 : 1 ≤ v) (hv : v ≤ 18446744073709551615) (hn1 : 1 ≤ n) (hn : n ≤ 4294967296) :
    Calls Try.prog 7 #[.int .u64 ni, .int .u64 vi] w fun e w' => RootEnd n v w e w' := by
  subst hni hvi
  exact floorRoot_any n v w hv1 hv hn1 hn

theorem RootIs.zero {n v r : Nat} (h : RootIs n v r false) : r = 0 := by
  rcases h with ⟨h, _⟩ | ⟨_, h, _⟩
  · cases h
  · exact h

set_option maxHeartbeats 1000000 in
/-- Where there is no v-th root. -/
theorem walk_none (a0 a1 a2 : Int) (n v u r X : Nat) (w : World) (E0 : Hid (a0 = (n : Int))) (E1 : Hid (a1 = (v : Int))) (E2 : Hid (a2 = (u : Int))) (h0 : 1 ≤ a0) (h0' : a0 ≤ 4294967296) (h1 : 1 ≤ a1) (h1' : a1 ≤ 4294967295) (h2 : 1 ≤ a2) (h2' : a2 ≤ 4294967295) (HX : Hid (v * u = X)) (HX1 : Hid (1 ≤ X ∧ X ≤ 18446744073709551615)) (hw : IntKind.u64.wrap (a1 * a2) = (X : Int)) (HR : Hid (RootIs n v r false)) :
    Calls Try.prog 4 #[.int .u64 a0, .int .u64 a1, .int .u64 a2] w fun e w' => e = .returned (.bool true) ∧ Grown w w' := by
  go_enter Try.func4, Try.ntmps4
  go_wp2_with fail
  refine (zzIntRoot_any _ _ n v w E0.out E1.out (by have := E1.out; omega) (by have := E1.out; omega) (by have := E0.out; omega) (by have := E0.out; omega)).mono ?_
  rintro e w' ⟨r1, ok1, rfl, hr1, rfl⟩
  obtain ⟨rfl, rfl⟩ := RootIs.unique (by have := E1.out; omega) hr1 HR.out
  obtain rfl := RootIs.zero hr1
  clear hr1
  go_wp2_with fail
  refine (floorRoot_int _ _ n v w E0.out E1.out (by have := E1.out; omega) (by have := E1.out; omega) (by have := E0.out; omega) (by have := E0.out; omega)).mono ?_
  rintro e w' ⟨r2, ok2, rfl, hr2, rfl⟩
  obtain ⟨rfl, rfl⟩ := RootIs.unique (by have := E1.out; omega) hr2 HR.out
  clear hr2
  go_wp2_with fail
  refine (zzIntRoot_any _ _ n X w E0.out rfl HX1.out.1 HX1.out.2 (by have := E0.out; omega) (by have := E0.out; omega)).mono ?_
  rintro e w' ⟨r3, ok3, rfl, hr3, rfl⟩
  obtain ⟨rfl, rfl⟩ := RootIs.unique HX1.out.1 hr3 (by rw [← HX.out]; exact HR.out.compose_none)
  clear hr3
  go_wp2
  go_ret
  exact ⟨rfl, Grown.refl _⟩

set_option maxHeartbeats 1000000 in
/-- Where there is one. -/
theorem walk_some (a0 a1 a2 : Int) (n v u r X b : Nat) (ok : Bool) (w : World) (E0 : Hid (a0 = (n : Int))) (E1 : Hid (a1 = (v : Int))) (E2 : Hid (a2 = (u : Int))) (h0 : 1 ≤ a0) (h0' : a0 ≤ 4294967296) (h1 : 1 ≤ a1) (h1' : a1 ≤ 4294967295) (h2 : 1 ≤ a2) (h2' : a2 ≤ 4294967295) (HX : Hid (v * u = X)) (HX1 : Hid (1 ≤ X ∧ X ≤ 18446744073709551615)) (hw : IntKind.u64.wrap (a1 * a2) = (X : Int))
    (HR : Hid (RootIs n v r true)) (hr1 : 1 ≤ (r : Int)) (hr2 : (r : Int) ≤ 4294967296) (HB : Hid (RootIs r u b ok)) (hz : ok = false → b = 0) :
    Calls Try.prog 4 #[.int .u64 a0, .int .u64 a1, .int .u64 a2] w fun e w' => e = .returned (.bool true) ∧ Grown w w' := by
  have HZ := hide hz
  clear hz
  go_enter Try.func4, Try.ntmps4
  go_wp2_with fail
  refine (zzIntRoot_any _ _ n v w E0.out E1.out (by have := E1.out; omega) (by have := E1.out; omega) (by have := E0.out; omega) (by have := E0.out; omega)).mono ?_
  rintro e w' ⟨r1, ok1, rfl, h1, rfl⟩
  obtain ⟨rfl, rfl⟩ := RootIs.unique (by have := E1.out; omega) h1 HR.out
  clear h1
  go_wp2_with fail
  refine (floorRoot_int _ _ n v w E0.out E1.out (by have := E1.out; omega) (by have := E1.out; omega) (by have := E0.out; omega) (by have := E0.out; omega)).mono ?_
  rintro e w' ⟨r2, ok2, rfl, h2, rfl⟩
  obtain ⟨rfl, rfl⟩ := RootIs.unique (by have := E1.out; omega) h2 HR.out
  clear h2
  go_wp2_with fail
  refine (zzIntRoot_any _ _ n X w E0.out rfl HX1.out.1 HX1.out.2 (by have := E0.out; omega) (by have := E0.out; omega)).mono ?_
  rintro e w' ⟨r3, ok3, rfl, h3, rfl⟩
  obtain ⟨rfl, rfl⟩ := RootIs.unique HX1.out.1 h3 (by rw [← HX.out]; exact HR.out.compose (by have := E1.out; omega) HB.out)
  clear h3
  go_wp2_with fail
  refine (zzIntRoot_any _ _ _ u w rfl E2.out (by have := E2.out; omega) (by have := E2.out; omega) (by omega) (by omega)).mono ?_
  rintro e w' ⟨r4, ok4, rfl, h4, rfl⟩
  obtain ⟨rfl, rfl⟩ := RootIs.unique (by have := E2.out; omega) h4 HB.out
  clear h4
  cases ok4
  · have hb0 := HZ.out rfl
    subst hb0
    go_wp2
    go_ret
    exact ⟨rfl, Grown.refl _⟩
  · go_wp2
    go_ret
    exact ⟨rfl, Grown.refl _⟩

set_option maxHeartbeats 1000000 in
theorem walk (a0 : Int) (a1 : Int) (a2 : Int) (w0 : (Lit.int .u64 a0).wf = true) (w1 : (Lit.int .u64 a1).wf = true) (w2 : (Lit.int .u64 a2).wf = true) (w : World) :
    Calls Try.prog 4 #[.int .u64 a0, .int .u64 a1, .int .u64 a2] w fun e w' => e = .returned (.bool true) ∧ Grown w w' := by
  have b0 := bounds_u64 w0
  have b1 := bounds_u64 w1
  have b2 := bounds_u64 w2
  by_cases hin : ((1 ≤ a0 ∧ a0 ≤ 4294967296) ∧ 1 ≤ a1) ∧ 1 ≤ a2 ∧ a1 < 4294967296 ∧ a2 < 4294967296
  · obtain ⟨⟨⟨h1, h2⟩, h3⟩, h4, h5, h6⟩ := hin
    obtain ⟨n, rfl⟩ : ∃ n : Nat, a0 = (n : Int) := ⟨a0.toNat, by omega⟩
    obtain ⟨v, rfl⟩ : ∃ v : Nat, a1 = (v : Int) := ⟨a1.toNat, by omega⟩
    obtain ⟨u, rfl⟩ : ∃ u : Nat, a2 = (u : Int) := ⟨a2.toNat, by omega⟩
    have hX : v * u ≤ 4294967295 * 4294967295 := Nat.mul_le_mul (by omega) (by omega)
    have hX1 : 1 ≤ v * u := Nat.mul_pos (by omega) (by omega)
    have hw : IntKind.u64.wrap ((v : Int) * (u : Int)) = ((v * u : Nat) : Int) := by
      rw [← Int.natCast_mul, u64_nat _ (by omega)]
    obtain ⟨r, ok, hr⟩ := root_is n v
    cases ok with
    | false => exact walk_none _ _ _ n v u r (v * u) w rfl rfl rfl (by omega) (by omega) (by omega) (by omega) (by omega) (by omega) rfl ⟨hX1, by omega⟩ hw hr
    | true =>
      obtain ⟨b, ok, hb⟩ := root_is r u
      have hle := RootIs.le (by omega) hr
      exact walk_some _ _ _ n v u r (v * u) b ok w rfl rfl rfl (by omega) (by omega) (by omega) (by omega) (by omega) (by omega) rfl ⟨hX1, by omega⟩ hw hr (by omega) (by omega) hb (fun e => by subst e; exact RootIs.zero hb)
  · by_cases h1 : 1 ≤ a0
    · by_cases h2 : a0 ≤ 4294967296
      · by_cases h3 : 1 ≤ a1
        · by_cases h4 : 1 ≤ a2
          · by_cases h5 : a1 < 4294967296
            all_goals
              go_enter Try.func4, Try.ntmps4
              go_wp2
              go_ret
              exact ⟨rfl, Grown.refl _⟩
          · go_enter Try.func4, Try.ntmps4
            go_wp2
            go_ret
            exact ⟨rfl, Grown.refl _⟩
        · go_enter Try.func4, Try.ntmps4
          go_wp2
          go_ret
          exact ⟨rfl, Grown.refl _⟩
      · go_enter Try.func4, Try.ntmps4
        go_wp2
        go_ret
        exact ⟨rfl, Grown.refl _⟩
    · go_enter Try.func4, Try.ntmps4
      go_wp2
      go_ret
      exact ⟨rfl, Grown.refl _⟩

/-! ### THE ROW's STEP: WRITTEN OUT: LEAVE IT -/
set_option maxRecDepth 100000 in
theorem lifted (os : Os) (started : os.Started) (H : Type) (enc : TypeId × Value → H) :
    ReturnsInHanded {} Try.checked os 4 .any (Rows.fnIntRootComposesSpec.pre6 enc Try.prog Try.f4 Rows.fnIntRootComposesRow.domain false) (Rows.fnIntRootComposesSpec.post enc Try.prog Try.f4 false true false false) := by
  refine returnsInHanded_of_change (C := Try.checked) own started (by kernel_rfl) Try.func4
    (ChangeSpec.witness6 (enc := enc) (C := Try.checked) false ⟨#[], #[.int .u64 0, .int .u64 0, .int .u64 0], []⟩ 8 (by kernel_rfl) (by kernel_rfl) (by kernel_rfl) (by kernel_rfl)) ?_
  intro W base args ds gs before hval0 hW hcnd _
  have hval : ∀ (j : Nat) t v, Try.f4.params[j]? = some t → args[j]? = some v → Value.okWide Try.prog W .any base t v := hval0
  have hW' := hW
  obtain ⟨p, q, hA0, hV, rfl, hfz, hnd⟩ := hW
  have hA : DataW.TrodAll enc Try.prog W 0 (fun _ => true) true Try.f4.params.toList args.toList ds p := hA0
  rw [Try.params4] at hA hval
  obtain ⟨v0, vs0, d0, ds0, p0, q0, hargs, rfl, rfl, h0, r0⟩ := trodAll_cons hA
  obtain ⟨v1, vs1, d1, ds1, p1, q1, rfl, rfl, rfl, h1, r1⟩ := trodAll_cons r0
  obtain ⟨v2, vs2, d2, ds2, p2, q2, rfl, rfl, rfl, h2, r2⟩ := trodAll_cons r1
  obtain ⟨rfl, rfl, rfl⟩ := trodAll_nil r2
  obtain rfl : args = #[v0, v1, v2] := by cases args; simp_all
  obtain ⟨rfl, rfl⟩ := trodVars_none hV
  obtain ⟨a0, rfl, rfl, rfl, w0⟩ := open_int Try.underlying22 (hval 0 22 v0 rfl rfl) h0
  obtain ⟨a1, rfl, rfl, rfl, w1⟩ := open_int Try.underlying22 (hval 1 22 v1 rfl rfl) h1
  obtain ⟨a2, rfl, rfl, rfl, w2⟩ := open_int Try.underlying22 (hval 2 22 v2 rfl rfl) h2
  clear hA0 hval0
  simp only [List.append_nil] at hW'
  refine (walk a0 a1 a2 w0 w1 w2 W).mono fun e W' ⟨he, hg⟩ => ?_
  subst he
  exact ⟨_, rfl, post_of_same (pa := []) (pv := []) hW' (fun _ _ _ => (trodAll_cons_mk (shut_bool Try.underlying4 _) trodAll_mk0)) (fun sp _ => (trodAll_cons_mk (shut_int Try.underlying22 w0) (trodAll_cons_mk (shut_int Try.underlying22 w1) (trodAll_cons_mk (shut_int Try.underlying22 w2) trodAll_mk0)))) (fun _ _ => rfl) rfl
    (hg.frame _) hg.2.1 (ok_one (by kernel_rfl) rfl (okWide_bool_mk Try.underlying4 _))⟩

theorem over : Rows.fnIntRootComposesRow.holds Try.pinned (OpenSpec.ofChange Rows.fnIntRootComposesSpec) :=
  OpenClaim.holds_of_wide 4 Try.f4 rfl rfl rfl rfl rfl rfl rfl ⟨rfl, rfl, rfl, rfl, rfl⟩ rfl rfl rfl rfl rfl (by kernel_rfl) Try.func4 (by kernel_rfl)
    (of_decide_eq_true (by kernel_rfl)) (by unfold Func.isWrapper; first | (rw [if_pos (by decide +kernel)]; kernel_rfl) | (rw [if_neg (by decide +kernel)]; exact ⟨rfl, rfl⟩))
    (fun os started H enc _ => lifted os started H enc)

/-- ████ THE STATEMENT ████ -/
theorem proved : Rows.FnIntRootComposesSaid :=
  over
#print axioms proved
end Go.Proofs.Qxb6619443a.fnIntRootComposes
