import Derived.Test.Qxb6617947aRows
import Derived.Test.Qxb6617947aWalkB
import Derived.Test.Qxb6617947aEarly
import Derived.WalkKit
import Derived.ProofKit
import Derived.OpenShut
import Derived.ChangeOld
import Derived.Below
namespace Go.Proofs.Qxb6617947a.fnTakeMadeMergesInWeightOrder
open Go.ChangeShapes Go.WideShapes Go.ChangeAt Go.RowKit

theorem own : ownKnob Try.prog.godebug = none := by kernel_rfl
theorem laidOut : laidOutB Try.prog = true := by kernel_rfl
theorem cells3 : Try.prog.cellsOf 3 = 1 := by kernel_rfl
theorem cells24 : Try.prog.cellsOf 24 = 1 := by kernel_rfl
theorem cells26 : Try.prog.cellsOf 26 = 512 := by kernel_rfl

/-- What the walk is told of a pointer to an int. -/
def PtrInt (w : World) (v : Value) : Prop := v = .pointer none ∨ ∃ b off s, v = .pointer (some ⟨b, off, none⟩) ∧ w.cell? ⟨b, off, none⟩ = some (.int .i64 s)
/-- .. and of a pointer to an array of 512 numbers. -/
def PtrArr (w : World) (v : Value) : Prop := v = .pointer none ∨ ∃ (b off : Nat) (K : Nat → Int), v = .pointer (some ⟨b, off, none⟩) ∧ ∀ j, j < 512 → w.cell? ⟨b, off + j, none⟩ = some (.int .u64 (K j))

def numAt : Option Value → Int
  | some (.int _ z) => z
  | _ => 0

theorem walk (v0 v1 v4 v5 : Value) (made n : Int) (w : World) (p0 : PtrInt w v0) (p1 : PtrInt w v1) (p4 : PtrArr w v4) (p5 : PtrArr w v5) :
    Calls Try.prog 3 #[v0, v1, .int .i64 made, .int .i64 n, v4, v5] w fun e w' => e = .returned (.bool true) ∧ Below w.heap.size w w' := by
  rcases p0 with rfl | ⟨b0, o0, s0, rfl, c0⟩
  · exact nil_sym v1 v4 v5 made n w
  rcases p1 with rfl | ⟨b1, o1, d0, rfl, c1⟩
  · exact nil_node _ v4 v5 made n w
  rcases p4 with rfl | ⟨b4, o4, K, rfl, c4⟩
  · exact nil_keys _ _ v5 made n w
  rcases p5 with rfl | ⟨b5, o5, W, rfl, c5⟩
  · exact nil_weight _ _ _ made n w
  by_cases h1 : n < 0 ∨ 512 < n ∨ made < 0 ∨ 512 < made
  · exact out_sizes _ _ _ _ made n w h1
  by_cases h2 : s0 < 0 ∨ n < s0 ∨ d0 < 0 ∨ made < d0
  · exact out_cursors _ _ _ _ made n s0 d0 w (by omega) (by omega) (by omega) (by omega) c0 c1 h2
  obtain ⟨m', rfl⟩ : ∃ m' : Nat, made = (m' : Int) := ⟨made.toNat, by omega⟩
  obtain ⟨n', rfl⟩ : ∃ n' : Nat, n = (n' : Int) := ⟨n.toNat, by omega⟩
  obtain ⟨s', rfl⟩ : ∃ s' : Nat, s0 = (s' : Int) := ⟨s0.toNat, by omega⟩
  obtain ⟨d', rfl⟩ : ∃ d' : Nat, d0 = (d' : Int) := ⟨d0.toNat, by omega⟩
  exact main_walk b0 o0 b1 o1 b4 o4 b5 o5 m' n' s' d' K W w (by omega) (by omega) (by omega) (by omega) c0 c1 c4 c5

set_option maxRecDepth 100000 in
theorem lifted (os : Os) (started : os.Started) (H : Type) (enc : TypeId × Value → H) :
    ReturnsInHanded {} Try.checked os 3 .any (Rows.fnTakeMadeMergesInWeightOrderSpec.pre6 enc Try.prog Try.f3 Rows.fnTakeMadeMergesInWeightOrderRow.domain false) (Rows.fnTakeMadeMergesInWeightOrderSpec.post enc Try.prog Try.f3 false true false false) := by
  refine returnsInHanded_of_change (C := Try.checked) own started (by kernel_rfl) Try.func3
    (ChangeSpec.witness6 (enc := enc) (C := Try.checked) false ⟨#[], #[.pointer none, .pointer none, .int .i64 0, .int .i64 0, .pointer none, .pointer none], []⟩ 8 (by kernel_rfl) (by kernel_rfl) (by kernel_rfl) (by kernel_rfl)) ?_
  intro W base args ds gs before hval0 hW hcnd _
  have hval : ∀ (j : Nat) t v, Try.f3.params[j]? = some t → args[j]? = some v → Value.okWide Try.prog W .any base t v := hval0
  have hW' := hW
  obtain ⟨p, q, hA0, hV, rfl, hfz, hnd⟩ := hW
  have hA : DataW.TrodAll enc Try.prog W 0 (fun _ => true) true Try.f3.params.toList args.toList ds p := hA0
  rw [Try.params3] at hA hval
  obtain ⟨v0, vs0, d0, ds0, p0, q0, hargs, rfl, rfl, h0, r0⟩ := trodAll_cons hA
  obtain ⟨v1, vs1, d1, ds1, p1, q1, rfl, rfl, rfl, h1, r1⟩ := trodAll_cons r0
  obtain ⟨v2, vs2, d2, ds2, p2, q2, rfl, rfl, rfl, h2, r2⟩ := trodAll_cons r1
  obtain ⟨v3, vs3, d3, ds3, p3, q3, rfl, rfl, rfl, h3, r3⟩ := trodAll_cons r2
  obtain ⟨v4, vs4, d4, ds4, p4, q4, rfl, rfl, rfl, h4, r4⟩ := trodAll_cons r3
  obtain ⟨v5, vs5, d5, ds5, p5, q5, rfl, rfl, rfl, h5, r5⟩ := trodAll_cons r4
  obtain ⟨rfl, rfl, rfl⟩ := trodAll_nil r5
  obtain rfl : args = #[v0, v1, v2, v3, v4, v5] := by cases args; simp_all
  obtain ⟨rfl, rfl⟩ := trodVars_none hV
  have ltt : ∀ {t : TypeId} {v : Value} {d : DataW H} {p : List MemPlace}, DataW.Trod enc Try.prog W 0 (fun _ => true) true t v d p → ∀ x ∈ p, x.block < W.heap.size := by
    intro t v d p k
    obtain ⟨m, hm⟩ := k
    exact DataW.trod_lt m _ _ _ hm
  have ptrI : ∀ (j : Nat) (v : Value) (d : DataW H) (p : List MemPlace), Value.okWide Try.prog W .any base 22 v → DataW.Trod enc Try.prog W 0 (fun _ => true) true 22 v d p → PtrInt W v := by
    intro j v d p hv hd
    rcases open_ptr_int Try.underlying22 Try.underlying3 cells3 hv hd with ⟨e, _, _⟩ | ⟨b, off, s, e, _, _, hc, _⟩
    · exact .inl e
    · exact .inr ⟨b, off, s, e, hc⟩
  have ptrA : ∀ (j : Nat) (v : Value) (d : DataW H) (p : List MemPlace), Value.okWide Try.prog W .any base 23 v → DataW.Trod enc Try.prog W 0 (fun _ => true) true 23 v d p → PtrArr W v := by
    intro j v d p hv hd
    rcases Go.ChangeShapes.open_ptr Try.underlying23 (by rw [cells26]; omega) hv hd with ⟨e, _, _⟩ | ⟨b, off, cs, y, fuel, e, _, _, hlen, hcell, hy⟩
    · exact .inl e
    · refine .inr ⟨b, off, fun j => numAt cs[j]?, e, fun j hj => ?_⟩
      obtain ⟨xs, m, _, _, _, hxl, hel⟩ := DataW.trod_array Try.underlying26 hy
      have h1 := hel j hj
      rw [List.getElem?_eq_getElem (by omega)] at h1
      obtain ⟨z, hz, _, _⟩ := DataW.trod_int Try.underlying24 h1
      rw [cells24, Nat.mul_one] at hz
      have h2 : cs[j]? = some (.int .u64 z) := by
        have := congrArg (·[0]?) hz
        simpa [List.getElem?_take, List.getElem?_drop] using this
      rw [hcell j (by rw [cells26]; exact hj)]
      show cs[j]? = some (.int .u64 (numAt cs[j]?))
      rw [h2]
      rfl
  have w0 := ptrI 0 v0 _ _ (hval 0 22 v0 rfl rfl) h0
  have w1 := ptrI 1 v1 _ _ (hval 1 22 v1 rfl rfl) h1
  have w4 := ptrA 4 v4 _ _ (hval 4 23 v4 rfl rfl) h4
  have w5 := ptrA 5 v5 _ _ (hval 5 23 v5 rfl rfl) h5
  obtain ⟨a2, rfl, rfl, rfl, w2⟩ := open_int Try.underlying3 (hval 2 3 v2 rfl rfl) h2
  obtain ⟨a3, rfl, rfl, rfl, w3⟩ := open_int Try.underlying3 (hval 3 3 v3 rfl rfl) h3
  clear hA0 hval0
  refine (walk v0 v1 v4 v5 a2 a3 W w0 w1 w4 w5).mono fun e W' ⟨he, bel⟩ => ?_
  subst he
  exact ⟨_, rfl, _, _, _, [], _, [], hW', trodAll_mk1 (shut_bool Try.underlying4 _),
    (trodAll_cons_mk (Below.trod laidOut (by kernel_rfl) (of_decide_eq_true (by kernel_rfl)) h0 bel (ltt h0)) (trodAll_cons_mk (Below.trod laidOut (by kernel_rfl) (of_decide_eq_true (by kernel_rfl)) h1 bel (ltt h1))
      (trodAll_cons_mk (shut_int Try.underlying3 w2) (trodAll_cons_mk (shut_int Try.underlying3 w3)
      (trodAll_cons_mk (Below.trod laidOut (by kernel_rfl) (of_decide_eq_true (by kernel_rfl)) h4 bel (ltt h4)) (trodAll_cons_mk (Below.trod laidOut (by kernel_rfl) (of_decide_eq_true (by kernel_rfl)) h5 bel (ltt h5)) trodAll_mk0)))))), rfl, bel.frame _, fun h => by cases h⟩

theorem over : Rows.fnTakeMadeMergesInWeightOrderRow.holds Try.pinned (OpenSpec.ofChange Rows.fnTakeMadeMergesInWeightOrderSpec) :=
  OpenClaim.holds_of_wide 3 Try.f3 rfl rfl rfl rfl rfl rfl rfl ⟨rfl, rfl, rfl, rfl, rfl⟩ rfl rfl rfl rfl rfl (by kernel_rfl) Try.func3 (by kernel_rfl)
    (of_decide_eq_true (by kernel_rfl)) (by unfold Func.isWrapper; first | (rw [if_pos (by decide +kernel)]; kernel_rfl) | (rw [if_neg (by decide +kernel)]; exact ⟨rfl, rfl⟩))
    (fun os started H enc _ => lifted os started H enc)

/-- The statement. -/
theorem proved : Rows.FnTakeMadeMergesInWeightOrderSaid := over
#print axioms proved
end Go.Proofs.Qxb6617947a.fnTakeMadeMergesInWeightOrder
