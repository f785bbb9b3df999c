import Derived.Test.Qxb6619443aWrite
namespace Go.Proofs.Qxb6619443a
open Go.RowKit


set_option maxHeartbeats 4000000 in
theorem write2 (a0 a1 a2 a3 a4 a5 a6 x : Int) (s : ByteArray) (w : World) (hs : s.size ≤ maxLen) (hs2 : s.size ≤ 1048576) (h0 : (s.toList == [109, 97, 120, 105, 109, 117, 109, 83, 117, 112, 112, 108, 121]) = false) (g0 : ([109, 97, 120, 105, 109, 117, 109, 83, 117, 112, 112, 108, 121] == s.toList) = false) (h1 : (s.toList == [109, 105, 110, 116, 105, 110, 103, 80, 101, 114, 105, 111, 100]) = false) (g1 : ([109, 105, 110, 116, 105, 110, 103, 80, 101, 114, 105, 111, 100] == s.toList) = false) (h2 : (s.toList == [109, 105, 110, 67, 111, 110, 115, 117, 109, 112, 116, 105, 111, 110, 82, 97, 116, 101]) = true) (g2 : ([109, 105, 110, 67, 111, 110, 115, 117, 109, 112, 116, 105, 111, 110, 82, 97, 116, 101] == s.toList) = true) :
    Calls Try.prog 5 #[.int .u64 a0, .int .u64 a1, .int .u64 a2, .int .u64 a3, .int .u64 a4, .int .u64 a5, .int .u64 a6, .string s, .int .u64 x] w fun e w' => e = .returned (.bool true) ∧ Grown w w' := by
  go_enter Try.func5, Try.ntmps5
  go_wp2_with (first | (go_at_call 8; refine (bytesN_any _ _ _ _ _ _ _ _ _ _ hs).mono ?_; rintro e w' ⟨rfl, rfl⟩) | (go_at_call 9; refine (zzParams_any _ _).mono ?_; rintro e w' ⟨rfl, rfl⟩))
  refine wp_loop_rounds 3 ?_
  rw [rounds_succ]
  go_wp2_with (first | (go_at_call 10; refine (paramName_any _ _ _).mono ?_; rintro e w' ⟨rfl, rfl⟩) | (go_at_call 11; refine (paramValue_any _ _ _).mono ?_; rintro e w' ⟨rfl, rfl⟩))
  rw [rounds_succ]
  go_wp2_with (first | (go_at_call 10; refine (paramName_any _ _ _).mono ?_; rintro e w' ⟨rfl, rfl⟩) | (go_at_call 11; refine (paramValue_any _ _ _).mono ?_; rintro e w' ⟨rfl, rfl⟩))
  rw [rounds_succ]
  go_wp2_with (first | (go_at_call 10; refine (paramName_any _ _ _).mono ?_; rintro e w' ⟨rfl, rfl⟩) | (go_at_call 11; refine (paramValue_any _ _ _).mono ?_; rintro e w' ⟨rfl, rfl⟩))
  refine (zzLookup2 (w.heap.size + 1 + 1) w.heap.size 0 4 5 x { data := #[109, 97, 120, 105, 109, 117, 109, 83, 117, 112, 112, 108, 121] } { data := #[109, 105, 110, 116, 105, 110, 103, 80, 101, 114, 105, 111, 100] } { data := #[109, 105, 110, 67, 111, 110, 115, 117, 109, 112, 116, 105, 111, 110, 82, 97, 116, 101] } s _ ?_ ?_ ?_ ?_ ?_ ?_ ?_ ?_ ?_ ?_ ?_ ?_).mono ?_
  · go_simp
  · go_simp
  · go_simp
  · go_simp
  · go_simp
  · go_simp
  · go_simp
  · simp <;> omega
  · simp <;> omega
  · rw [ByteArray.toList_eq]; exact g0
  · rw [ByteArray.toList_eq]; exact g1
  · rw [ByteArray.toList_eq]; exact g2
  rintro e w' ⟨rfl, rfl⟩
  go_wp2
  go_ret
  exact ⟨rfl, by repeat (first | exact Grown.refl _ | apply Grown.drew | apply Grown.alloc)⟩
end Go.Proofs.Qxb6619443a
