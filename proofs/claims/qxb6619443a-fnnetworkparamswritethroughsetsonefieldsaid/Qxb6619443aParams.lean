import Derived.Test.Qxb6619443aRoots
import Derived.RegionTactic
import Derived.ChangeAlike
import Derived.Deep.RegionWith
namespace Go.Proofs.Qxb6619443a
open Go.RowKit

set_option maxHeartbeats 1000000 in
theorem params_any (b : Nat) (w : World) :
    Calls Try.prog 15 #[.pointer (some ⟨b, 0, none⟩)] w fun e w' => e = .returned (.slice (some ⟨w.heap.size, 0, none⟩) 4 4) ∧ (w.alloc (.cells #[.string { data := #[109, 97, 120, 105, 109, 117, 109, 83, 117, 112, 112, 108, 121] }, .pointer (some ⟨b, 0, none⟩),
        .string { data := #[109, 105, 110, 116, 105, 110, 103, 80, 101, 114, 105, 111, 100] }, .pointer (some ⟨b, 4, none⟩),
        .string { data := #[109, 105, 110, 67, 111, 110, 115, 117, 109, 112, 116, 105, 111, 110, 82, 97, 116, 101] }, .pointer (some ⟨b, 5, none⟩),
        .string { data := #[109, 97, 120, 67, 111, 110, 115, 117, 109, 112, 116, 105, 111, 110, 82, 97, 116, 101] }, .pointer (some ⟨b, 6, none⟩)] 36)).drew = w' := by
  go_enter Try.func15, Try.ntmps15
  go_wp2
  go_region
  go_wp2
  go_ret
  exact ⟨rfl, rfl⟩

set_option maxHeartbeats 1000000 in
theorem zzParams_any (b : Nat) (w : World) :
    Calls Try.prog 9 #[.pointer (some ⟨b, 0, none⟩)] w fun e w' => e = .returned (.slice (some ⟨w.heap.size, 0, none⟩) 4 4) ∧ (w.alloc (.cells #[.string { data := #[109, 97, 120, 105, 109, 117, 109, 83, 117, 112, 112, 108, 121] }, .pointer (some ⟨b, 0, none⟩),
        .string { data := #[109, 105, 110, 116, 105, 110, 103, 80, 101, 114, 105, 111, 100] }, .pointer (some ⟨b, 4, none⟩),
        .string { data := #[109, 105, 110, 67, 111, 110, 115, 117, 109, 112, 116, 105, 111, 110, 82, 97, 116, 101] }, .pointer (some ⟨b, 5, none⟩),
        .string { data := #[109, 97, 120, 67, 111, 110, 115, 117, 109, 112, 116, 105, 111, 110, 82, 97, 116, 101] }, .pointer (some ⟨b, 6, none⟩)] 36)).drew = w' := by
  go_enter Try.func9, Try.ntmps9
  go_wp2_with (go_at_call 15; refine (params_any b _).mono ?_; rintro e w' ⟨rfl, rfl⟩)
  go_ret
  exact ⟨rfl, rfl⟩

set_option maxHeartbeats 400000 in
theorem bytesN_any (a0 a1 a2 a3 a4 a5 a6 x : Int) (s : ByteArray) (w : World) (hs : s.size ≤ maxLen) :
    Calls Try.prog 8 #[.int .u64 a0, .int .u64 a1, .int .u64 a2, .int .u64 a3, .int .u64 a4, .int .u64 a5, .int .u64 a6, .string s, .int .u64 x] w fun e w' => e = .returned (.bool (decide (s.size ≤ 1048576))) ∧ w = w' := by
  unfold maxLen at hs
  by_cases h : s.size ≤ 1048576
  all_goals
    go_enter Try.func8, Try.ntmps8
    go_wp2
    go_ret
    exact ⟨by simp [h], rfl⟩

set_option maxHeartbeats 1000000 in
theorem paramName_any (n p : Value) (w : World) :
    Calls Try.prog 10 #[.agg #[n, p]] w fun e w' => e = .returned n ∧ w.alloc (.cells #[n, p] 36) = w' := by
  go_enter Try.func10, Try.ntmps10
  go_wp2
  go_ret
  exact ⟨rfl, rfl⟩
end Go.Proofs.Qxb6619443a
