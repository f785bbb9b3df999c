import Derived.Test.Qxb6617947aTake
import Derived.Laws.StructEq
import Derived.Deep.WholeRow
import Derived.ChangeKeysEq
namespace Go.Proofs.Qxb6617947a
open Go.RowKit

theorem eql_array (d : Nat) (t e : TypeId) (len : Nat) (xs : Array Value) (w : World) (ht : Try.prog.underlying t = some (.array len e))
    (hs : ∀ w, (sizeOf e).run Try.prog w = .ok 1 w) (hp : ∀ i, i < len → ∃ v, (∀ w, (part e xs (i * 1)).run Try.prog w = .ok v w) ∧ ∀ w, (Op.equalIn d e v v).run Try.prog w = .ok true w) :
    (Op.equalIn (d + 1) t (.agg xs) (.agg xs)).run Try.prog w = .ok true w := by
  simp only [Op.equalIn, Sem.run_bind, run_underlying ht, Result.andThen_ok, hs]
  simp only [Std.Legacy.Range.forIn_eq_forIn_range']
  have hl : ∀ i ∈ List.range' 0 (Std.Legacy.Range.size [:len]), i < len := by
    intro i hi
    simp [List.mem_range', Std.Legacy.Range.size] at hi
    omega
  revert hl
  generalize List.range' 0 (Std.Legacy.Range.size [:len]) = l
  intro hl
  have key : ∀ (l : List Nat), (∀ i ∈ l, i < len) → ∀ w, (Sem.run Try.prog (forIn l ((none : Option Bool), ()) fun i __s => do
            let __do_lift ← part e xs (i * 1)
            let __do_lift_1 ← part e xs (i * 1)
            let __do_lift ← Op.equalIn d e __do_lift __do_lift_1
            if (!__do_lift) = true then pure (ForInStep.done (some false, ())) else pure (ForInStep.yield (none, ()))) w) = .ok (none, ()) w := by
    intro l
    induction l with
    | nil => intro _ w; simp
    | cons i r ih =>
      intro hl w
      obtain ⟨v, h1, h2⟩ := hp i (hl i List.mem_cons_self)
      simp only [List.forIn_cons, Sem.run_bind, h1, h2, Result.andThen_ok, Bool.not_true, Bool.false_eq_true, if_false, Sem.run_pure]
      exact ih (fun j hj => hl j (List.mem_cons_of_mem _ hj)) w
  rw [key l hl w]
  rfl

/-- The whole array out of a row of cells, wherever it lies. -/
theorem loadAt_cells (w : World) (t e : TypeId) (n b off : Nat) (cs : Array Value) (hu : Try.prog.underlying t = some (.array n e)) (hi : (Try.prog.info? t).map (·.size) = some cs.size)
    (hc : ∀ j v, cs.toList[j]? = some v → w.cell? ⟨b, off + j, none⟩ = some v) :
    (Instr.loadAt t (.pointer (some ⟨b, off, none⟩))).run Try.prog w = .ok (.agg cs) w := by
  have hl : (loadCells ⟨b, off, none⟩ cs.toList.length).run Try.prog w = .ok cs.toList.toArray w :=
    run_loadCells_list (P := Try.prog) w ⟨b, off, none⟩ cs.toList (fun j v hv => by
      have hadd : (⟨b, off, none⟩ : Addr).add j = ⟨b, off + j, none⟩ := by unfold Addr.add; split <;> simp_all
      rw [hadd]
      exact hc j v hv)
  simp only [Instr.loadAt, Instr.sureAddr, Sem.run_bind, Sem.run_pure, Result.andThen_ok]
  cases hq : Try.prog.info? t with
  | none => simp [hq] at hi
  | some i =>
    have hs : i.size = cs.size := by simpa [hq] using hi
    have hagg : (isAgg t).run Try.prog w = .ok true w := by
      unfold isAgg
      rw [Sem.run_bind, run_underlying hu w]
      rfl
    simp only [Array.length_toList, Array.toArray_toList] at hl
    simp [loadVar, Sem.run_bind, hagg, sizeOf, typeInfo, hq, hs, hl]

/-- .. as the walk meets it. -/
theorem wpList_load_arr {ops : Array Oper} {rest : List Oper} {o : Oper} {a : Act} {w : World} {Q : Exit → Act → World → Prop} (hgd : o.guard = none) (t : TypeId) (x : Operand) (ho : o.op = .load t x)
    (b off : Nat) (hx : a.eval x = .pointer (some ⟨b, off, none⟩)) (cs : Array Value) (hrun : (Instr.loadAt t (.pointer (some ⟨b, off, none⟩))).run Try.prog w = .ok (.agg cs) w)
    (h : wpList Try.prog ops Q rest (a.put o.dst (.agg cs)) w) : wpList Try.prog ops Q (o :: rest) a w :=
  wpList_plain hgd fun _ hK => by
    unfold Oper.wp execOp
    simp only [ho, hx, Sem.run_bind, Sem.run_pure, Result.andThen_ok, hrun]
    exact hK _ _ h

/-- A whole array into the block that was made last. -/
theorem wpList_store_arr {ops : Array Oper} {rest : List Oper} {o : Oper} {a : Act} {w w1 : World} {Q : Exit → Act → World → Prop} (hgd : o.guard = none) (t : TypeId) (x y : Operand) (ho : o.op = .store t x y)
    (b : Nat) (hx : a.eval x = .pointer (some ⟨b, 0, none⟩)) (cs : Array Value) (hy : a.eval y = .agg cs) (hrun : (Instr.storeAt t (.pointer (some ⟨b, 0, none⟩)) (.agg cs)).run Try.prog w = .ok () w1)
    (h : wpList Try.prog ops Q rest (a.put o.dst undef) w1) : wpList Try.prog ops Q (o :: rest) a w :=
  wpList_plain hgd fun _ hK => by
    unfold Oper.wp execOp
    simp only [ho, hx, hy, Sem.run_bind, Sem.run_pure, Result.andThen_ok, hrun]
    exact hK _ _ h

end Go.Proofs.Qxb6617947a
