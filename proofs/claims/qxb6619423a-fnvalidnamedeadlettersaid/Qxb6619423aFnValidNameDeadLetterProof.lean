import Derived.Test.Qxb6619423aRows
import Derived.WalkKit
import Derived.ProofKit
import Derived.OpenShut
import Derived.ShutString
import Derived.Test.Qxb6619423aValid
namespace Go.Proofs.Qxb6619423a.fnValidNameDeadLetter
open Go.ChangeShapes Go.WideShapes Go.ChangeAt Go.RowKit
open Go.ChangeMaps (open_string shut_string)
set_option linter.unusedVariables false      -- a walk need not use every 'w<i>' (that an integer argument fits its kind)

theorem own : ownKnob Try.prog.godebug = none := by kernel_rfl

/-! ### STEP 1: THE WALK: the Go text returns true. 'Grown w w'': the world has at most new blocks (Derived/RowKit3.lean). Part the cases AHEAD of 'go_enter' where a test parts the walk; take each callee by a contract of your own. -/
theorem long_list {s : ByteArray} (h : 1 ≤ s.size) : s.toList.isEmpty = false := by
  rw [Lib.toList_data, List.isEmpty_eq_false_iff]
  intro e
  have : s.data.toList.length = s.size := by simp
  rw [e] at this
  simp at this
  omega

theorem dead_size (s : ByteArray) : (s ++ { data := #[45, 100, 108, 113] } : ByteArray).size = s.size + 4 := by
  rw [ByteArray.size_append]; rfl

theorem dead_list (s : ByteArray) : (s ++ { data := #[45, 100, 108, 113] } : ByteArray).data.toList = s.data.toList ++ [45, 100, 108, 113] := by
  simp

theorem dead_sfx (s : ByteArray) : sfxB (s ++ { data := #[45, 100, 108, 113] }) = true := by
  rw [← sfxB_long (by rw [dead_size]; omega), extract_end, dead_list, dead_size]
  simp

theorem dead_src (s : ByteArray) : src (s ++ { data := #[45, 100, 108, 113] }) = s := by
  have h : (src (s ++ { data := #[45, 100, 108, 113] })).data.toList = s.data.toList := by
    rw [src_data, dead_list, dead_size]
    simp
  apply ByteArray.ext
  exact Array.toList_inj.1 h

theorem dead_nbs (s : ByteArray) : nbs (s ++ { data := #[45, 100, 108, 113] } : ByteArray).data.toList = nbs s.data.toList := by
  rw [dead_list, nbs_append]; simp [nbs, nbI]

/-- ValidName of a dead letter's name: what stands ahead of the suffix is at most 128 name bytes. -/
theorem valid_dead (s : ByteArray) (w : World) (hs : s.size ≤ 1048576) :
    Calls Try.prog 8 #[.string (s ++ { data := #[45, 100, 108, 113] })] w fun e w' => e = .returned (.bool (decide (s.size ≤ 128) && nbs s.data.toList)) ∧ w' = w := by
  have hz := dead_size s
  have hm : (s ++ { data := #[45, 100, 108, 113] } : ByteArray).size ≤ maxLen := by unfold maxLen; omega
  by_cases h128 : s.size ≤ 128
  · by_cases h124 : s.size ≤ 124
    · refine (valid_short _ w (by omega) (by omega)).mono ?_
      rintro e w' ⟨rfl, rfl⟩
      exact ⟨ret_bool (by rw [dead_nbs]; simp [h128]), rfl⟩
    · refine (valid_hit _ w (by omega) (by omega) (dead_sfx s)).mono ?_
      rintro e w' ⟨rfl, rfl⟩
      exact ⟨ret_bool (by rw [dead_src]; simp [h128]), rfl⟩
  · refine (valid_great _ w hm (by omega) (dead_sfx s)).mono ?_
    rintro e w' ⟨rfl, rfl⟩
    exact ⟨ret_bool (by simp [h128]), rfl⟩

set_option maxHeartbeats 1000000 in
theorem walk (a0 : ByteArray) (w0 : a0.size ≤ maxLen) (w : World) :
    Calls Try.prog 4 #[.string a0] w fun e w' => e = .returned (.bool true) ∧ Grown w w' := by
  have w1 := w0
  unfold maxLen at w1
  by_cases hg : a0.size ≤ 1048576
  · have hm : (a0 ++ { data := #[45, 100, 108, 113] } : ByteArray).size ≤ maxLen := by rw [dead_size]; unfold maxLen; omega
    have HX := dead_sfx a0
    by_cases h128 : a0.size ≤ 128
    · by_cases hz : 1 ≤ a0.size
      · obtain ⟨b, hb⟩ : ∃ b, nbs a0.data.toList = b := ⟨_, rfl⟩
        have hz2 : a0.toList.isEmpty = false := long_list hz
        have hz3 : a0.toList ≠ [] := by intro e; rw [e] at hz2; cases hz2
        go_enter Try.func4, Try.ntmps4
        go_wp2_with (go_at_call 9; refine (bytesDead_any _ _ w0).mono ?_; rintro e w' ⟨rfl, rfl⟩)
        refine (valid_dead a0 _ hg).mono ?_
        rintro e w' ⟨rfl, rfl⟩
        go_wp2_with (first | (go_at_call 6; refine (allBytes_any _ _ w0).mono ?_; rintro e w' ⟨rfl, rfl⟩) | (go_at_call 8; refine (valid_short _ _ hz h128).mono ?_; rintro e w' ⟨rfl, rfl⟩) | (go_at_call 10; refine (isDead_any _ _ hm).mono ?_; rintro e w' ⟨rfl, rfl⟩) | (go_at_call 11; refine (source_hit _ a0 _ hm HX (dead_src a0)).mono ?_; rintro e w' ⟨rfl, rfl⟩))
        all_goals (go_ret; exact ⟨rfl, Grown.refl _⟩)
      · have el : a0.data.toList.length = a0.size := by simp
        have e0 : a0.data.toList = [] := List.length_eq_zero_iff.1 (by omega)
        clear el
        have hz2 : a0.toList.isEmpty = true := by rw [Lib.toList_data, e0]; rfl
        have hz3 : a0.toList = [] := by rw [Lib.toList_data, e0]
        have hb : nbs a0.data.toList = true := by rw [e0]; rfl
        clear e0
        go_enter Try.func4, Try.ntmps4
        go_wp2_with (first | (go_at_call 9; refine (bytesDead_any _ _ w0).mono ?_; rintro e w' ⟨rfl, rfl⟩) | (go_at_call 6; refine (allBytes_any _ _ w0).mono ?_; rintro e w' ⟨rfl, rfl⟩) | (go_at_call 8; refine (valid_dead a0 _ hg).mono ?_; rintro e w' ⟨rfl, rfl⟩) | (go_at_call 10; refine (isDead_any _ _ hm).mono ?_; rintro e w' ⟨rfl, rfl⟩) | (go_at_call 11; refine (source_hit _ a0 _ hm HX (dead_src a0)).mono ?_; rintro e w' ⟨rfl, rfl⟩))
        all_goals (go_ret; exact ⟨rfl, Grown.refl _⟩)
    · have hz2 : a0.toList.isEmpty = false := long_list (by omega)
      have hz3 : a0.toList ≠ [] := by intro e; rw [e] at hz2; cases hz2
      go_enter Try.func4, Try.ntmps4
      go_wp2_with (first | (go_at_call 9; refine (bytesDead_any _ _ w0).mono ?_; rintro e w' ⟨rfl, rfl⟩) | (go_at_call 8; refine (valid_dead a0 _ hg).mono ?_; rintro e w' ⟨rfl, rfl⟩) | (go_at_call 10; refine (isDead_any _ _ hm).mono ?_; rintro e w' ⟨rfl, rfl⟩) | (go_at_call 11; refine (source_hit _ a0 _ hm HX (dead_src a0)).mono ?_; rintro e w' ⟨rfl, rfl⟩))
      all_goals (go_ret; exact ⟨rfl, Grown.refl _⟩)
  · go_enter Try.func4, Try.ntmps4
    go_wp2_with (go_at_call 9; refine (bytesDead_any _ _ w0).mono ?_; rintro e w' ⟨rfl, rfl⟩)
    go_ret
    exact ⟨rfl, Grown.refl _⟩

/-! ### THE ROW's STEP: WRITTEN OUT: LEAVE IT -/
set_option maxRecDepth 100000 in
theorem lifted (os : Os) (started : os.Started) (H : Type) (enc : TypeId × Value → H) :
    ReturnsInHanded {} Try.checked os 4 .any (Rows.fnValidNameDeadLetterSpec.pre6 enc Try.prog Try.f4 Rows.fnValidNameDeadLetterRow.domain false) (Rows.fnValidNameDeadLetterSpec.post enc Try.prog Try.f4 false true false false) := by
  refine returnsInHanded_of_change (C := Try.checked) own started (by kernel_rfl) Try.func4
    (ChangeSpec.witness6 (enc := enc) (C := Try.checked) false ⟨#[], #[.string ByteArray.empty], []⟩ 8 (by kernel_rfl) (by kernel_rfl) (by kernel_rfl) (by kernel_rfl)) ?_
  intro W base args ds gs before hval0 hW hcnd _
  have hval : ∀ (j : Nat) t v, Try.f4.params[j]? = some t → args[j]? = some v → Value.okWide Try.prog W .any base t v := hval0
  have hW' := hW
  obtain ⟨p, q, hA0, hV, rfl, hfz, hnd⟩ := hW
  have hA : DataW.TrodAll enc Try.prog W 0 (fun _ => true) true Try.f4.params.toList args.toList ds p := hA0
  rw [Try.params4] at hA hval
  obtain ⟨v0, vs0, d0, ds0, p0, q0, hargs, rfl, rfl, h0, r0⟩ := trodAll_cons hA
  obtain ⟨rfl, rfl, rfl⟩ := trodAll_nil r0
  obtain rfl : args = #[v0] := by cases args; simp_all
  obtain ⟨rfl, rfl⟩ := trodVars_none hV
  obtain ⟨a0, rfl, rfl, rfl, w0⟩ := open_string Try.underlying9 (hval 0 9 v0 rfl rfl) h0
  clear hA0 hval0
  simp only [List.append_nil] at hW'
  refine (walk a0 w0 W).mono fun e W' ⟨he, hg⟩ => ?_
  subst he
  exact ⟨_, rfl, post_of_same (pa := []) (pv := []) hW' (fun _ _ _ => (trodAll_cons_mk (shut_bool Try.underlying4 _) trodAll_mk0)) (fun sp _ => (trodAll_cons_mk (shut_string Try.underlying9 w0) trodAll_mk0)) (fun _ _ => rfl) rfl
    (hg.frame _) hg.2.1 (ok_one (by kernel_rfl) rfl (okWide_bool_mk Try.underlying4 _))⟩

theorem over : Rows.fnValidNameDeadLetterRow.holds Try.pinned (OpenSpec.ofChange Rows.fnValidNameDeadLetterSpec) :=
  OpenClaim.holds_of_wide 4 Try.f4 rfl rfl rfl rfl rfl rfl rfl ⟨rfl, rfl, rfl, rfl, rfl⟩ rfl rfl rfl rfl rfl (by kernel_rfl) Try.func4 (by kernel_rfl)
    (of_decide_eq_true (by kernel_rfl)) (by unfold Func.isWrapper; first | (rw [if_pos (by decide +kernel)]; kernel_rfl) | (rw [if_neg (by decide +kernel)]; exact ⟨rfl, rfl⟩))
    (fun os started H enc _ => lifted os started H enc)

/-- ████ THE STATEMENT ████ -/
theorem proved : Rows.FnValidNameDeadLetterSaid :=
  over
#print axioms proved
end Go.Proofs.Qxb6619423a.fnValidNameDeadLetter
