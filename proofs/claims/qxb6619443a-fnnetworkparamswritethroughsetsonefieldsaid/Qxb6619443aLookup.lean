import Derived.Test.Qxb6619443aParams
import Derived.LoopN
namespace Go.Proofs.Qxb6619443a
open Go.RowKit

/-- An old cell behind new blocks. -/
theorem old1 {w : World} {b off : Nat} (h : b < w.heap.size) (x : Obj) : (w.alloc x).cell? ⟨b, off, none⟩ = w.cell? ⟨b, off, none⟩ :=
  ((Below.refl w.heap.size w).alloc (Nat.le_refl _) x).cell (p := ⟨b, off, none⟩) h
theorem old2 {w : World} {b off : Nat} (h : b < w.heap.size) (x y : Obj) : ((w.alloc x).alloc y).cell? ⟨b, off, none⟩ = w.cell? ⟨b, off, none⟩ :=
  (old1 (w := w.alloc x) (by simp; omega) y).trans (old1 h x)
theorem old3 {w : World} {b off : Nat} (h : b < w.heap.size) (x y z : Obj) : (((w.alloc x).alloc y).alloc z).cell? ⟨b, off, none⟩ = w.cell? ⟨b, off, none⟩ :=
  (old2 (w := w.alloc x) (by simp; omega) y z).trans (old1 h x)
theorem old4 {w : World} {b off : Nat} (h : b < w.heap.size) (x y z u : Obj) : ((((w.alloc x).alloc y).alloc z).alloc u).cell? ⟨b, off, none⟩ = w.cell? ⟨b, off, none⟩ :=
  (old3 (w := w.alloc x) (by simp; omega) y z u).trans (old1 h x)

/-! ### lookup, by where the name stands -/

set_option maxHeartbeats 2000000 in
theorem lookup0 (B g o0 : Nat) (y : Int) (k0 s : ByteArray) (w : World) (c0 : w.cell? ⟨B, 0, none⟩ = some (.string k0)) (c1 : w.cell? ⟨B, 1, none⟩ = some (.pointer (some ⟨g, o0, none⟩))) (cy : w.cell? ⟨g, o0, none⟩ = some (.int .u64 y)) (hg : g < w.heap.size) (_hB : B < w.heap.size) (h0 : (k0.toList == s.toList) = true) :
    Calls Try.prog 16 #[.slice (some ⟨B, 0, none⟩) 4 4, .string s] w fun e w' => e = .returned (.tuple #[.int .u64 y, .bool true]) ∧ (w.alloc (.cells #[.string k0, .pointer (some ⟨g, o0, none⟩)] 36)) = w' := by
  go_enter Try.func16, Try.ntmps16
  go_wp2
  refine wp_loop_rounds 1 ?_
  rw [rounds_succ]
  go_wp2
  go_ret2
  exact ⟨rfl, rfl⟩

set_option maxHeartbeats 2000000 in
theorem zzLookup0 (B g o0 : Nat) (y : Int) (k0 s : ByteArray) (w : World) (c0 : w.cell? ⟨B, 0, none⟩ = some (.string k0)) (c1 : w.cell? ⟨B, 1, none⟩ = some (.pointer (some ⟨g, o0, none⟩))) (cy : w.cell? ⟨g, o0, none⟩ = some (.int .u64 y)) (hg : g < w.heap.size) (hB : B < w.heap.size) (h0 : (k0.toList == s.toList) = true) :
    Calls Try.prog 12 #[.slice (some ⟨B, 0, none⟩) 4 4, .string s] w fun e w' => e = .returned (.tuple #[.int .u64 y, .bool true]) ∧ (w.alloc (.cells #[.string k0, .pointer (some ⟨g, o0, none⟩)] 36)) = w' := by
  have HL := hide (lookup0 B g o0 y k0 s w c0 c1 cy hg hB h0)
  clear c0 c1 cy h0
  go_enter Try.func12, Try.ntmps12
  go_wp2_with fail
  refine HL.out.mono ?_
  rintro e w' ⟨rfl, rfl⟩
  go_wp2
  go_ret2
  exact ⟨rfl, rfl⟩

set_option maxHeartbeats 2000000 in
theorem lookup1 (B g o0 o1 : Nat) (y : Int) (k0 k1 s : ByteArray) (w : World) (c0 : w.cell? ⟨B, 0, none⟩ = some (.string k0)) (c1 : w.cell? ⟨B, 1, none⟩ = some (.pointer (some ⟨g, o0, none⟩))) (c2 : w.cell? ⟨B, 2, none⟩ = some (.string k1)) (c3 : w.cell? ⟨B, 3, none⟩ = some (.pointer (some ⟨g, o1, none⟩))) (cy : w.cell? ⟨g, o1, none⟩ = some (.int .u64 y)) (hg : g < w.heap.size) (hB : B < w.heap.size) (h0 : (k0.toList == s.toList) = false) (h1 : (k1.toList == s.toList) = true) :
    Calls Try.prog 16 #[.slice (some ⟨B, 0, none⟩) 4 4, .string s] w fun e w' => e = .returned (.tuple #[.int .u64 y, .bool true]) ∧ ((w.alloc (.cells #[.string k0, .pointer (some ⟨g, o0, none⟩)] 36)).alloc (.cells #[.string k1, .pointer (some ⟨g, o1, none⟩)] 36)) = w' := by
  go_enter Try.func16, Try.ntmps16
  go_wp2
  refine wp_loop_rounds 2 ?_
  rw [rounds_succ]
  go_wp2
  rw [rounds_succ]
  go_wp2
  go_ret2
  exact ⟨rfl, rfl⟩

set_option maxHeartbeats 2000000 in
theorem zzLookup1 (B g o0 o1 : Nat) (y : Int) (k0 k1 s : ByteArray) (w : World) (c0 : w.cell? ⟨B, 0, none⟩ = some (.string k0)) (c1 : w.cell? ⟨B, 1, none⟩ = some (.pointer (some ⟨g, o0, none⟩))) (c2 : w.cell? ⟨B, 2, none⟩ = some (.string k1)) (c3 : w.cell? ⟨B, 3, none⟩ = some (.pointer (some ⟨g, o1, none⟩))) (cy : w.cell? ⟨g, o1, none⟩ = some (.int .u64 y)) (hg : g < w.heap.size) (hB : B < w.heap.size) (h0 : (k0.toList == s.toList) = false) (h1 : (k1.toList == s.toList) = true) :
    Calls Try.prog 12 #[.slice (some ⟨B, 0, none⟩) 4 4, .string s] w fun e w' => e = .returned (.tuple #[.int .u64 y, .bool true]) ∧ ((w.alloc (.cells #[.string k0, .pointer (some ⟨g, o0, none⟩)] 36)).alloc (.cells #[.string k1, .pointer (some ⟨g, o1, none⟩)] 36)) = w' := by
  have HL := hide (lookup1 B g o0 o1 y k0 k1 s w c0 c1 c2 c3 cy hg hB h0 h1)
  clear c0 c1 c2 c3 cy h0 h1
  go_enter Try.func12, Try.ntmps12
  go_wp2_with fail
  refine HL.out.mono ?_
  rintro e w' ⟨rfl, rfl⟩
  go_wp2
  go_ret2
  exact ⟨rfl, rfl⟩

set_option maxHeartbeats 2000000 in
theorem lookup2 (B g o0 o1 o2 : Nat) (y : Int) (k0 k1 k2 s : ByteArray) (w : World) (c0 : w.cell? ⟨B, 0, none⟩ = some (.string k0)) (c1 : w.cell? ⟨B, 1, none⟩ = some (.pointer (some ⟨g, o0, none⟩))) (c2 : w.cell? ⟨B, 2, none⟩ = some (.string k1)) (c3 : w.cell? ⟨B, 3, none⟩ = some (.pointer (some ⟨g, o1, none⟩))) (c4 : w.cell? ⟨B, 4, none⟩ = some (.string k2)) (c5 : w.cell? ⟨B, 5, none⟩ = some (.pointer (some ⟨g, o2, none⟩))) (cy : w.cell? ⟨g, o2, none⟩ = some (.int .u64 y)) (hg : g < w.heap.size) (hB : B < w.heap.size) (h0 : (k0.toList == s.toList) = false) (h1 : (k1.toList == s.toList) = false) (h2 : (k2.toList == s.toList) = true) :
    Calls Try.prog 16 #[.slice (some ⟨B, 0, none⟩) 4 4, .string s] w fun e w' => e = .returned (.tuple #[.int .u64 y, .bool true]) ∧ (((w.alloc (.cells #[.string k0, .pointer (some ⟨g, o0, none⟩)] 36)).alloc (.cells #[.string k1, .pointer (some ⟨g, o1, none⟩)] 36)).alloc (.cells #[.string k2, .pointer (some ⟨g, o2, none⟩)] 36)) = w' := by
  have d1 := fun x y z : Obj => (old3 hg x y z).trans cy
  go_enter Try.func16, Try.ntmps16
  go_wp2
  refine wp_loop_rounds 3 ?_
  rw [rounds_succ]
  go_wp2
  rw [rounds_succ]
  go_wp2
  rw [rounds_succ]
  go_wp2
  go_ret2
  exact ⟨rfl, rfl⟩

set_option maxHeartbeats 2000000 in
theorem zzLookup2 (B g o0 o1 o2 : Nat) (y : Int) (k0 k1 k2 s : ByteArray) (w : World) (c0 : w.cell? ⟨B, 0, none⟩ = some (.string k0)) (c1 : w.cell? ⟨B, 1, none⟩ = some (.pointer (some ⟨g, o0, none⟩))) (c2 : w.cell? ⟨B, 2, none⟩ = some (.string k1)) (c3 : w.cell? ⟨B, 3, none⟩ = some (.pointer (some ⟨g, o1, none⟩))) (c4 : w.cell? ⟨B, 4, none⟩ = some (.string k2)) (c5 : w.cell? ⟨B, 5, none⟩ = some (.pointer (some ⟨g, o2, none⟩))) (cy : w.cell? ⟨g, o2, none⟩ = some (.int .u64 y)) (hg : g < w.heap.size) (hB : B < w.heap.size) (h0 : (k0.toList == s.toList) = false) (h1 : (k1.toList == s.toList) = false) (h2 : (k2.toList == s.toList) = true) :
    Calls Try.prog 12 #[.slice (some ⟨B, 0, none⟩) 4 4, .string s] w fun e w' => e = .returned (.tuple #[.int .u64 y, .bool true]) ∧ (((w.alloc (.cells #[.string k0, .pointer (some ⟨g, o0, none⟩)] 36)).alloc (.cells #[.string k1, .pointer (some ⟨g, o1, none⟩)] 36)).alloc (.cells #[.string k2, .pointer (some ⟨g, o2, none⟩)] 36)) = w' := by
  have HL := hide (lookup2 B g o0 o1 o2 y k0 k1 k2 s w c0 c1 c2 c3 c4 c5 cy hg hB h0 h1 h2)
  clear c0 c1 c2 c3 c4 c5 cy h0 h1 h2
  go_enter Try.func12, Try.ntmps12
  go_wp2_with fail
  refine HL.out.mono ?_
  rintro e w' ⟨rfl, rfl⟩
  go_wp2
  go_ret2
  exact ⟨rfl, rfl⟩

set_option maxHeartbeats 2000000 in
theorem lookup3 (B g o0 o1 o2 o3 : Nat) (y : Int) (k0 k1 k2 k3 s : ByteArray) (w : World) (c0 : w.cell? ⟨B, 0, none⟩ = some (.string k0)) (c1 : w.cell? ⟨B, 1, none⟩ = some (.pointer (some ⟨g, o0, none⟩))) (c2 : w.cell? ⟨B, 2, none⟩ = some (.string k1)) (c3 : w.cell? ⟨B, 3, none⟩ = some (.pointer (some ⟨g, o1, none⟩))) (c4 : w.cell? ⟨B, 4, none⟩ = some (.string k2)) (c5 : w.cell? ⟨B, 5, none⟩ = some (.pointer (some ⟨g, o2, none⟩))) (c6 : w.cell? ⟨B, 6, none⟩ = some (.string k3)) (c7 : w.cell? ⟨B, 7, none⟩ = some (.pointer (some ⟨g, o3, none⟩))) (cy : w.cell? ⟨g, o3, none⟩ = some (.int .u64 y)) (hg : g < w.heap.size) (hB : B < w.heap.size) (h0 : (k0.toList == s.toList) = false) (h1 : (k1.toList == s.toList) = false) (h2 : (k2.toList == s.toList) = false) (h3 : (k3.toList == s.toList) = true) :
    Calls Try.prog 16 #[.slice (some ⟨B, 0, none⟩) 4 4, .string s] w fun e w' => e = .returned (.tuple #[.int .u64 y, .bool true]) ∧ ((((w.alloc (.cells #[.string k0, .pointer (some ⟨g, o0, none⟩)] 36)).alloc (.cells #[.string k1, .pointer (some ⟨g, o1, none⟩)] 36)).alloc (.cells #[.string k2, .pointer (some ⟨g, o2, none⟩)] 36)).alloc (.cells #[.string k3, .pointer (some ⟨g, o3, none⟩)] 36)) = w' := by
  have d1 := fun x y z : Obj => (old3 hB x y z).trans c6
  have d2 := fun x y z : Obj => (old3 hB x y z).trans c7
  have d3 := fun x y z u : Obj => (old4 hg x y z u).trans cy
  go_enter Try.func16, Try.ntmps16
  go_wp2
  refine wp_loop_rounds 4 ?_
  rw [rounds_succ]
  go_wp2
  rw [rounds_succ]
  go_wp2
  rw [rounds_succ]
  go_wp2
  rw [rounds_succ]
  go_wp2
  go_ret2
  exact ⟨rfl, rfl⟩

set_option maxHeartbeats 2000000 in
theorem zzLookup3 (B g o0 o1 o2 o3 : Nat) (y : Int) (k0 k1 k2 k3 s : ByteArray) (w : World) (c0 : w.cell? ⟨B, 0, none⟩ = some (.string k0)) (c1 : w.cell? ⟨B, 1, none⟩ = some (.pointer (some ⟨g, o0, none⟩))) (c2 : w.cell? ⟨B, 2, none⟩ = some (.string k1)) (c3 : w.cell? ⟨B, 3, none⟩ = some (.pointer (some ⟨g, o1, none⟩))) (c4 : w.cell? ⟨B, 4, none⟩ = some (.string k2)) (c5 : w.cell? ⟨B, 5, none⟩ = some (.pointer (some ⟨g, o2, none⟩))) (c6 : w.cell? ⟨B, 6, none⟩ = some (.string k3)) (c7 : w.cell? ⟨B, 7, none⟩ = some (.pointer (some ⟨g, o3, none⟩))) (cy : w.cell? ⟨g, o3, none⟩ = some (.int .u64 y)) (hg : g < w.heap.size) (hB : B < w.heap.size) (h0 : (k0.toList == s.toList) = false) (h1 : (k1.toList == s.toList) = false) (h2 : (k2.toList == s.toList) = false) (h3 : (k3.toList == s.toList) = true) :
    Calls Try.prog 12 #[.slice (some ⟨B, 0, none⟩) 4 4, .string s] w fun e w' => e = .returned (.tuple #[.int .u64 y, .bool true]) ∧ ((((w.alloc (.cells #[.string k0, .pointer (some ⟨g, o0, none⟩)] 36)).alloc (.cells #[.string k1, .pointer (some ⟨g, o1, none⟩)] 36)).alloc (.cells #[.string k2, .pointer (some ⟨g, o2, none⟩)] 36)).alloc (.cells #[.string k3, .pointer (some ⟨g, o3, none⟩)] 36)) = w' := by
  have HL := hide (lookup3 B g o0 o1 o2 o3 y k0 k1 k2 k3 s w c0 c1 c2 c3 c4 c5 c6 c7 cy hg hB h0 h1 h2 h3)
  clear c0 c1 c2 c3 c4 c5 c6 c7 cy h0 h1 h2 h3
  go_enter Try.func12, Try.ntmps12
  go_wp2_with fail
  refine HL.out.mono ?_
  rintro e w' ⟨rfl, rfl⟩
  go_wp2
  go_ret2
  exact ⟨rfl, rfl⟩

set_option maxHeartbeats 2000000 in
theorem lookup4 (B g o0 o1 o2 o3 : Nat) (k0 k1 k2 k3 s : ByteArray) (w : World) (c0 : w.cell? ⟨B, 0, none⟩ = some (.string k0)) (c1 : w.cell? ⟨B, 1, none⟩ = some (.pointer (some ⟨g, o0, none⟩))) (c2 : w.cell? ⟨B, 2, none⟩ = some (.string k1)) (c3 : w.cell? ⟨B, 3, none⟩ = some (.pointer (some ⟨g, o1, none⟩))) (c4 : w.cell? ⟨B, 4, none⟩ = some (.string k2)) (c5 : w.cell? ⟨B, 5, none⟩ = some (.pointer (some ⟨g, o2, none⟩))) (c6 : w.cell? ⟨B, 6, none⟩ = some (.string k3)) (c7 : w.cell? ⟨B, 7, none⟩ = some (.pointer (some ⟨g, o3, none⟩))) (hB : B < w.heap.size) (h0 : (k0.toList == s.toList) = false) (h1 : (k1.toList == s.toList) = false) (h2 : (k2.toList == s.toList) = false) (h3 : (k3.toList == s.toList) = false) :
    Calls Try.prog 16 #[.slice (some ⟨B, 0, none⟩) 4 4, .string s] w fun e w' => e = .returned (.tuple #[.int .u64 0, .bool false]) ∧ ((((w.alloc (.cells #[.string k0, .pointer (some ⟨g, o0, none⟩)] 36)).alloc (.cells #[.string k1, .pointer (some ⟨g, o1, none⟩)] 36)).alloc (.cells #[.string k2, .pointer (some ⟨g, o2, none⟩)] 36)).alloc (.cells #[.string k3, .pointer (some ⟨g, o3, none⟩)] 36)) = w' := by
  have d1 := fun x y z : Obj => (old3 hB x y z).trans c6
  have d2 := fun x y z : Obj => (old3 hB x y z).trans c7
  go_enter Try.func16, Try.ntmps16
  go_wp2
  refine wp_loop_rounds 5 ?_
  rw [rounds_succ]
  go_wp2
  rw [rounds_succ]
  go_wp2
  rw [rounds_succ]
  go_wp2
  rw [rounds_succ]
  go_wp2
  rw [rounds_succ]
  go_wp2
  go_ret2
  exact ⟨rfl, rfl⟩

set_option maxHeartbeats 2000000 in
theorem zzLookup4 (B g o0 o1 o2 o3 : Nat) (k0 k1 k2 k3 s : ByteArray) (w : World) (c0 : w.cell? ⟨B, 0, none⟩ = some (.string k0)) (c1 : w.cell? ⟨B, 1, none⟩ = some (.pointer (some ⟨g, o0, none⟩))) (c2 : w.cell? ⟨B, 2, none⟩ = some (.string k1)) (c3 : w.cell? ⟨B, 3, none⟩ = some (.pointer (some ⟨g, o1, none⟩))) (c4 : w.cell? ⟨B, 4, none⟩ = some (.string k2)) (c5 : w.cell? ⟨B, 5, none⟩ = some (.pointer (some ⟨g, o2, none⟩))) (c6 : w.cell? ⟨B, 6, none⟩ = some (.string k3)) (c7 : w.cell? ⟨B, 7, none⟩ = some (.pointer (some ⟨g, o3, none⟩))) (hB : B < w.heap.size) (h0 : (k0.toList == s.toList) = false) (h1 : (k1.toList == s.toList) = false) (h2 : (k2.toList == s.toList) = false) (h3 : (k3.toList == s.toList) = false) :
    Calls Try.prog 12 #[.slice (some ⟨B, 0, none⟩) 4 4, .string s] w fun e w' => e = .returned (.tuple #[.int .u64 0, .bool false]) ∧ ((((w.alloc (.cells #[.string k0, .pointer (some ⟨g, o0, none⟩)] 36)).alloc (.cells #[.string k1, .pointer (some ⟨g, o1, none⟩)] 36)).alloc (.cells #[.string k2, .pointer (some ⟨g, o2, none⟩)] 36)).alloc (.cells #[.string k3, .pointer (some ⟨g, o3, none⟩)] 36)) = w' := by
  have HL := hide (lookup4 B g o0 o1 o2 o3 k0 k1 k2 k3 s w c0 c1 c2 c3 c4 c5 c6 c7 hB h0 h1 h2 h3)
  clear c0 c1 c2 c3 c4 c5 c6 c7 h0 h1 h2 h3
  go_enter Try.func12, Try.ntmps12
  go_wp2_with fail
  refine HL.out.mono ?_
  rintro e w' ⟨rfl, rfl⟩
  go_wp2
  go_ret2
  exact ⟨rfl, rfl⟩
end Go.Proofs.Qxb6619443a
