import Derived.Test.Qxb6617947aWalkA
namespace Go.Proofs.Qxb6617947a
open Go.RowKit

/-- The 512 numbers as an array's cells. -/
def arr512 (f : Nat → Int) : Array Value := (Array.range 512).map fun j => Value.int .u64 (f j)
/-- Zeros, not to be opened by the walk. -/
def zeros512 : Array Value := Array.replicate 512 (Value.int .u64 0)
def zeros1024 : Array Value := Array.replicate 1024 (Value.int .i64 0)

theorem arr512_size (f : Nat → Int) : (arr512 f).size = 512 := by simp [arr512]
theorem arr512_at (f : Nat → Int) (j : Nat) (h : j < 512) : (arr512 f)[j]? = some (Value.int .u64 (f j)) := by simp [arr512, h]
theorem zeros1024_at (j : Nat) (h : j < 1024) : zeros1024[j]? = some (Value.int .i64 0) := by simp [zeros1024, h]

theorem info26 : (Try.prog.info? 26).map (fun i => (i.zero, i.size)) = some (some (.agg zeros512), 512) := by kernel_rfl
theorem info27 : (Try.prog.info? 27).map (fun i => (i.zero, i.size)) = some (some (.agg zeros1024), 1024) := by kernel_rfl
theorem zero26 : ∀ w, (zeroValue 26).run Try.prog w = .ok (.agg zeros512) w := (zero_of_info info26).1
theorem zero27 : ∀ w, (zeroValue 27).run Try.prog w = .ok (.agg zeros1024) w := (zero_of_info info27).1
theorem size26 : (Try.prog.info? 26).map (·.size) = some 512 := (zero_of_info info26).2

theorem load512 (w : World) (b off : Nat) (f : Nat → Int) (h : ∀ j, j < 512 → w.cell? ⟨b, off + j, none⟩ = some (.int .u64 (f j))) :
    (Instr.loadAt 26 (.pointer (some ⟨b, off, none⟩))).run Try.prog w = .ok (.agg (arr512 f)) w := by
  refine loadAt_cells w 26 24 512 b off (arr512 f) Try.underlying26 (by rw [arr512_size]; exact size26) (fun j v hv => ?_)
  rw [Array.getElem?_toList] at hv
  by_cases hj : j < 512
  · rw [arr512_at f j hj] at hv
    rw [← hv]
    exact h j hj
  · rw [Array.getElem?_eq_none (by rw [arr512_size]; omega)] at hv
    cases hv

theorem one512 (f : Nat → Int) : (arr512 f).all (·.oneCell') = true := by
  rw [Array.all_eq_true]
  intro i hi
  simp [arr512, Value.oneCell']

theorem store512 (w : World) (f : Nat → Int) :
    (Instr.storeAt 26 (.pointer (some ⟨w.heap.size, 0, none⟩)) (.agg (arr512 f))).run Try.prog (w.alloc (.cells zeros512 26)) = .ok () (w.alloc (.cells (arr512 f) 26)) :=
  run_storeAt_new w 26 zeros512 (arr512 f) (by rw [arr512_size]; exact size26) (by rw [arr512_size]; simp [zeros512]) (one512 f)

theorem plain24 : Try.prog.plainKey 24 = true := by kernel_rfl

/-- '==' of an array of 512 numbers with itself. -/
theorem eq512 (w : World) (f : Nat → Int) : (Op.equalIn 10000 26 (.agg (arr512 f)) (.agg (arr512 f))).run Try.prog w = .ok true w := by
  refine eql_array 9999 26 24 512 (arr512 f) w Try.underlying26 Try.sizeOf24 (fun i hi => ⟨.int .u64 (f i), fun v => ?_, fun v => ?_⟩)
  · exact run_part_plain (P := Try.prog) v (e := 24) plain24 (by rw [Nat.mul_one]; exact arr512_at f i hi)
  · rw [run_equalIn_int v 9998 24 .u64 .u64 _ _ Try.underlying24]
    simp

theorem guard26 : Try.prog.eqGuardType Try.prog.depth 26 = false := by kernel_rfl

/-- A whole array read in a region that draws. -/
theorem quiet_load_arr {o : Oper} {a : Act} {C : World → Prop} {K : Act → Prop} (t : TypeId) (x : Operand) (ho : o.op = .load t x) (b off : Nat) (hx : a.eval x = .pointer (some ⟨b, off, none⟩)) (cs : Array Value)
    (hrun : ∀ w, C w → (Instr.loadAt t (.pointer (some ⟨b, off, none⟩))).run Try.prog w = .ok (.agg cs) w) (hk : K (a.put o.dst (.agg cs))) : o.quiet Try.prog a C K :=
  ⟨.agg cs, fun w hw => by
    unfold Oper.quietAt execOp
    simp only [ho, hx, Sem.run_bind, Sem.run_pure, Result.andThen_ok, hrun w hw]
    exact ⟨rfl, rfl⟩, hk⟩

/-- Two arrays held against each other in a region that draws. -/
theorem quiet_eql_arr {o : Oper} {a : Act} {C : World → Prop} {K : Act → Prop} (x y : Operand) (ho : o.op = .binOp .eql 26 x y 26) (f : Nat → Int) (cs : Array Value) (hcs : arr512 f = cs) (hx : a.eval x = .agg cs) (hy : a.eval y = .agg cs)
    (hk : K (a.put o.dst (.bool true))) : o.quiet Try.prog a C K :=
  ⟨.bool true, fun w hw => by
    subst hcs
    unfold Oper.quietAt execOp
    simp only [ho, hx, hy, Sem.run_bind, Sem.run_pure, Result.andThen_ok, run_eqGuard_agg w .eql 26 x y _ _ guard26, run_eql_struct, eq512 w f]
    exact ⟨rfl, rfl⟩, hk⟩

/-! ### What lies in memory while the law runs: the two copies, the two cursors, the table of what is expected -/
structure Sc (w : World) (N0 N1 N2 N3 N4 : Nat) (K W : Nat → Int) (s d : Nat) (A : Nat → Int) (v : World) : Prop where
  bel : Below w.heap.size w v
  sz : N4 < v.heap.size
  ck : ∀ j, j < 512 → v.cell? ⟨N0, j, none⟩ = some (.int .u64 (K j))
  cw : ∀ j, j < 512 → v.cell? ⟨N1, j, none⟩ = some (.int .u64 (W j))
  cs : v.cell? ⟨N2, 0, none⟩ = some (.int .i64 (s : Int))
  cd : v.cell? ⟨N3, 0, none⟩ = some (.int .i64 (d : Int))
  ce : ∀ r, r < 1024 → v.cell? ⟨N4, r, none⟩ = some (.int .i64 (A r))
  fs : v.frozen? ⟨N2, 0, none⟩ = false
  fd : v.frozen? ⟨N3, 0, none⟩ = false
  fe : ∀ r, v.frozen? ⟨N4, r, none⟩ = false

section
variable {w : World} {N0 N1 N2 N3 N4 : Nat} {K W : Nat → Int} {s d : Nat} {A : Nat → Int} {v : World}

theorem Sc.drewN (h : Sc w N0 N1 N2 N3 N4 K W s d A v) (q : Nat) : Sc w N0 N1 N2 N3 N4 K W s d A (v.drewN q) :=
  ⟨below_drewN h.bel q, h.sz, h.ck, h.cw, h.cs, h.cd, h.ce, h.fs, h.fd, h.fe⟩

theorem Sc.put (h : Sc w N0 N1 N2 N3 N4 K W s d A v) (h0 : w.heap.size ≤ N4) (n0 : N0 ≠ N4) (n1 : N1 ≠ N4) (n2 : N2 ≠ N4) (n3 : N3 ≠ N4) (r : Nat) (hr : r < 1024) (x : Int) :
    Sc w N0 N1 N2 N3 N4 K W s d (fun t => if t = r then x else A t) (v.setCell ⟨N4, r, none⟩ (.int .i64 x)) := by
  have oth : ∀ b off, b ≠ N4 → (v.setCell ⟨N4, r, none⟩ (.int .i64 x)).cell? ⟨b, off, none⟩ = v.cell? ⟨b, off, none⟩ := fun b off hb =>
    World.cell?_setCell_other v _ _ _ (by intro e; cases e; exact hb rfl)
  have frz : ∀ a, (v.setCell ⟨N4, r, none⟩ (.int .i64 x)).frozen? a = v.frozen? a := fun a => World.frozen?_setCell v _ a _
  refine ⟨h.bel.setCell (p := ⟨N4, r, none⟩) h0 _, ?_, fun j hj => ?_, fun j hj => ?_, ?_, ?_, fun t ht => ?_, ?_, ?_, fun t => ?_⟩
  · have e : (v.setCell ⟨N4, r, none⟩ (.int .i64 x)).heap.size = v.heap.size := by simp [World.setCell]
    rw [e]; exact h.sz
  · rw [oth N0 j n0]; exact h.ck j hj
  · rw [oth N1 j n1]; exact h.cw j hj
  · rw [oth N2 0 n2]; exact h.cs
  · rw [oth N3 0 n3]; exact h.cd
  · by_cases e : t = r
    · subst e
      rw [if_pos rfl]
      exact World.cell?_setCell_same v _ _ (h.ce t ht)
    · rw [if_neg e]
      rw [World.cell?_setCell_other v _ _ _ (by intro e'; cases e'; exact e rfl)]
      exact h.ce t ht
  · rw [frz]; exact h.fs
  · rw [frz]; exact h.fd
  · rw [frz]; exact h.fe t

theorem Sc.sym (h : Sc w N0 N1 N2 N3 N4 K W s d A v) {v' : World} (hst : Stp v N2 (.int .i64 ((s : Int) + 1)) v') (h0 : w.heap.size ≤ N2) (n0 : N2 ≠ N0) (n1 : N2 ≠ N1) (n3 : N2 ≠ N3) (n4 : N2 ≠ N4) :
    Sc w N0 N1 N2 N3 N4 K W (s + 1) d A v' := by
  refine ⟨h.bel.trans (hst.below h0), by rw [hst.size]; exact h.sz, fun j hj => ?_, fun j hj => ?_, ?_, ?_, fun t ht => ?_, ?_, ?_, fun t => ?_⟩
  · rw [hst.other n0]; exact h.ck j hj
  · rw [hst.other n1]; exact h.cw j hj
  · rw [hst.same h.cs]; rfl
  · rw [hst.other n3]; exact h.cd
  · rw [hst.other n4]; exact h.ce t ht
  · rw [hst.frozen]; exact h.fs
  · rw [hst.frozen]; exact h.fd
  · rw [hst.frozen]; exact h.fe t

theorem Sc.node (h : Sc w N0 N1 N2 N3 N4 K W s d A v) {v' : World} (hst : Stp v N3 (.int .i64 ((d : Int) + 1)) v') (h0 : w.heap.size ≤ N3) (n0 : N3 ≠ N0) (n1 : N3 ≠ N1) (n2 : N3 ≠ N2) (n4 : N3 ≠ N4) :
    Sc w N0 N1 N2 N3 N4 K W s (d + 1) A v' := by
  refine ⟨h.bel.trans (hst.below h0), by rw [hst.size]; exact h.sz, fun j hj => ?_, fun j hj => ?_, ?_, ?_, fun t ht => ?_, ?_, ?_, fun t => ?_⟩
  · rw [hst.other n0]; exact h.ck j hj
  · rw [hst.other n1]; exact h.cw j hj
  · rw [hst.other n2]; exact h.cs
  · rw [hst.same h.cd]; rfl
  · rw [hst.other n4]; exact h.ce t ht
  · rw [hst.frozen]; exact h.fs
  · rw [hst.frozen]; exact h.fd
  · rw [hst.frozen]; exact h.fe t
end

/-- The scene as the five allocations lay it. -/
theorem Sc.start (w v : World) (K W : Nat → Int) (s0 d0 : Nat) (hb : Below w.heap.size w v) (hz : v.heap.size = w.heap.size) :
    Sc w v.heap.size (v.heap.size + 1) (v.heap.size + 1 + 1) (v.heap.size + 1 + 1 + 1) (v.heap.size + 1 + 1 + 1 + 1) K W s0 d0 (fun _ => 0)
      (((((v.alloc (.cells (arr512 K) 26)).alloc (.cells (arr512 W) 26)).alloc (.cells #[.int .i64 (s0 : Int)] 3)).alloc (.cells #[.int .i64 (d0 : Int)] 3)).alloc (.cells zeros1024 27)) := by
  have o1 : ∀ {u : World} {b off : Nat} (x : Obj), b < u.heap.size → (u.alloc x).cell? ⟨b, off, none⟩ = u.cell? ⟨b, off, none⟩ := fun {u b off} x h =>
    ((Below.refl u.heap.size u).alloc (Nat.le_refl _) x).cell (p := ⟨b, off, none⟩) h
  have f1 : ∀ {u : World} {b off : Nat} (x : Obj), b < u.heap.size → (u.alloc x).frozen? ⟨b, off, none⟩ = u.frozen? ⟨b, off, none⟩ := fun {u b off} x h =>
    ((Below.refl u.heap.size u).alloc (Nat.le_refl _) x).frozen (p := ⟨b, off, none⟩) h
  have c1 : ∀ (u : World) (c : Array Value) (t : TypeId) (m off : Nat), u.heap.size = m → (u.alloc (.cells c t)).cell? ⟨m, off, none⟩ = c[off]? := fun u c t m off h => by
    subst h; exact World.cell?_alloc_new u c t off
  have g1 : ∀ (u : World) (c : Array Value) (t : TypeId) (m off : Nat), u.heap.size = m → (u.alloc (.cells c t)).frozen? ⟨m, off, none⟩ = false := fun u c t m off h => by
    subst h; exact World.frozen?_alloc_new u c t off
  refine ⟨?_, by simp, fun j hj => ?_, fun j hj => ?_, ?_, ?_, fun r hr => ?_, ?_, ?_, fun r => ?_⟩
  · exact ((((hb.alloc (by omega) _).alloc (by simp; omega) _).alloc (by simp; omega) _).alloc (by simp; omega) _).alloc (by simp; omega) _
  · rw [o1 _ (by simp <;> omega), o1 _ (by simp <;> omega), o1 _ (by simp <;> omega), o1 _ (by simp), c1 v _ _ _ _ rfl]; exact arr512_at K j hj
  · rw [o1 _ (by simp <;> omega), o1 _ (by simp <;> omega), o1 _ (by simp), c1 _ _ _ _ _ (by simp)]; exact arr512_at W j hj
  · rw [o1 _ (by simp <;> omega), o1 _ (by simp), c1 _ _ _ _ _ (by simp)]; rfl
  · rw [o1 _ (by simp), c1 _ _ _ _ _ (by simp)]; rfl
  · rw [c1 _ _ _ _ _ (by simp)]; exact zeros1024_at r hr
  · rw [f1 _ (by simp <;> omega), f1 _ (by simp), g1 _ _ _ _ _ (by simp)]
  · rw [f1 _ (by simp), g1 _ _ _ _ _ (by simp)]
  · rw [g1 _ _ _ _ _ (by simp)]
end Go.Proofs.Qxb6617947a
