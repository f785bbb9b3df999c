import Derived.Test.Qxb6617947aTake
namespace Go.Proofs.Qxb6617947a
open Go.RowKit

set_option maxHeartbeats 1000000 in
set_option maxRecDepth 100000 in
theorem nil_sym (v1 v4 v5 : Value) (made n : Int) (w : World) :
    Calls Try.prog 3 #[.pointer none, v1, .int .i64 made, .int .i64 n, v4, v5] w fun e w' => e = .returned (.bool true) ∧ Below w.heap.size w w' := by
  go_enter Try.func3, Try.ntmps3
  go_wp2
  go_ret
  exact ⟨rfl, Below.refl _ _⟩

set_option maxHeartbeats 1000000 in
set_option maxRecDepth 100000 in
theorem nil_node (a0 : Addr) (v4 v5 : Value) (made n : Int) (w : World) :
    Calls Try.prog 3 #[.pointer (some a0), .pointer none, .int .i64 made, .int .i64 n, v4, v5] w fun e w' => e = .returned (.bool true) ∧ Below w.heap.size w w' := by
  go_enter Try.func3, Try.ntmps3
  go_wp2
  go_ret
  exact ⟨rfl, Below.refl _ _⟩

set_option maxHeartbeats 1000000 in
set_option maxRecDepth 100000 in
theorem nil_keys (a0 a1 : Addr) (v5 : Value) (made n : Int) (w : World) :
    Calls Try.prog 3 #[.pointer (some a0), .pointer (some a1), .int .i64 made, .int .i64 n, .pointer none, v5] w fun e w' => e = .returned (.bool true) ∧ Below w.heap.size w w' := by
  go_enter Try.func3, Try.ntmps3
  go_wp2
  go_ret
  exact ⟨rfl, Below.refl _ _⟩

set_option maxHeartbeats 1000000 in
set_option maxRecDepth 100000 in
theorem nil_weight (a0 a1 a4 : Addr) (made n : Int) (w : World) :
    Calls Try.prog 3 #[.pointer (some a0), .pointer (some a1), .int .i64 made, .int .i64 n, .pointer (some a4), .pointer none] w fun e w' => e = .returned (.bool true) ∧ Below w.heap.size w w' := by
  go_enter Try.func3, Try.ntmps3
  go_wp2
  go_ret
  exact ⟨rfl, Below.refl _ _⟩

set_option maxHeartbeats 1000000 in
set_option maxRecDepth 100000 in
theorem out_sizes (a0 a1 a4 a5 : Addr) (made n : Int) (w : World) (h : n < 0 ∨ 512 < n ∨ made < 0 ∨ 512 < made) :
    Calls Try.prog 3 #[.pointer (some a0), .pointer (some a1), .int .i64 made, .int .i64 n, .pointer (some a4), .pointer (some a5)] w fun e w' => e = .returned (.bool true) ∧ Below w.heap.size w w' := by
  by_cases h1 : n < 0
  · go_enter Try.func3, Try.ntmps3
    go_wp2
    go_ret
    exact ⟨rfl, Below.refl _ _⟩
  · by_cases h2 : 512 < n
    · go_enter Try.func3, Try.ntmps3
      go_wp2
      go_ret
      exact ⟨rfl, Below.refl _ _⟩
    · by_cases h3 : made < 0
      · go_enter Try.func3, Try.ntmps3
        go_wp2
        go_ret
        exact ⟨rfl, Below.refl _ _⟩
      · have h4 : 512 < made := by omega
        clear h
        go_enter Try.func3, Try.ntmps3
        go_wp2
        go_ret
        exact ⟨rfl, Below.refl _ _⟩

set_option maxHeartbeats 1000000 in
set_option maxRecDepth 100000 in
theorem out_cursors (a0 a1 a4 a5 : Addr) (made n s0 d0 : Int) (w : World) (h1 : 0 ≤ n) (h2 : n ≤ 512) (h3 : 0 ≤ made) (h4 : made ≤ 512) (cs : w.cell? a0 = some (.int .i64 s0)) (cd : w.cell? a1 = some (.int .i64 d0)) (h : s0 < 0 ∨ n < s0 ∨ d0 < 0 ∨ made < d0) :
    Calls Try.prog 3 #[.pointer (some a0), .pointer (some a1), .int .i64 made, .int .i64 n, .pointer (some a4), .pointer (some a5)] w fun e w' => e = .returned (.bool true) ∧ Below w.heap.size w w' := by
  by_cases k1 : s0 < 0
  · go_enter Try.func3, Try.ntmps3
    go_wp2
    go_ret
    exact ⟨rfl, Below.refl _ _⟩
  · by_cases k2 : n < s0
    · go_enter Try.func3, Try.ntmps3
      go_wp2
      go_ret
      exact ⟨rfl, Below.refl _ _⟩
    · by_cases k3 : d0 < 0
      · go_enter Try.func3, Try.ntmps3
        go_wp2
        go_ret
        exact ⟨rfl, Below.refl _ _⟩
      · have k4 : made < d0 := by omega
        clear h
        go_enter Try.func3, Try.ntmps3
        go_wp2
        go_ret
        exact ⟨rfl, Below.refl _ _⟩
end Go.Proofs.Qxb6617947a
