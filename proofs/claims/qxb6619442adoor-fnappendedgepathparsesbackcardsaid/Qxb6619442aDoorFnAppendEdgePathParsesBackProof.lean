import Derived.Test.Qxb6619442aDoorRows
import Derived.Test.Qxb6619442aDoorTie
import Derived.Test.Qxb6619442aDoorCards
import Derived.Test.Qxb6619442aDoorLaid
import Derived.Test.Qxb6619442aDoorWalkB
import Derived.SevenTiedAt
import Derived.ChangeOld
import Derived.Below
namespace Go.Proofs.Qxb6619442aDoor.fnAppendEdgePathParsesBack
open Go.ChangeShapes Go.WideShapes Go.ChangeAt Go.RowKit

/-- Numbers that fit a byte are bytes. -/
theorem bytes_of (zs : List Int) (h : ∀ n ∈ zs, (Lit.int .u8 n).wf = true) : ∃ l : List UInt8, l.length = zs.length ∧ ∀ j (hj : j < l.length), zs.getD j 0 = (l[j].toNat : Int) := by
  induction zs with
  | nil => exact ⟨[], rfl, fun j hj => by simp at hj⟩
  | cons z r ih =>
    obtain ⟨l, hl, hj⟩ := ih (fun n hn => h n (List.mem_cons_of_mem _ hn))
    have hz := bounds_u8 (h z List.mem_cons_self)
    refine ⟨UInt8.ofNat z.toNat :: l, by simp [hl], fun j hj' => ?_⟩
    match j, hj' with
    | 0, _ =>
      simp only [List.getD_cons_zero, List.getElem_cons_zero]
      rw [UInt8.toNat_ofNat']
      omega
    | j + 1, hj' =>
      simp only [List.getD_cons_succ, List.getElem_cons_succ]
      exact hj j (by simpa using hj')

/-- What the walk is told of a slice of integers that came in. -/
def IsRow (k : IntKind) (w : World) (a : Option Addr) (len cap : Nat) (zs : List Int) : Prop :=
  (a = none ∧ len = 0 ∧ cap = 0) ∨ ∃ x, a = some x ∧ len ≤ cap ∧ cap ≤ maxLen ∧ zs.length = cap ∧ (∀ i, i < zs.length → w.cell? (x.add i) = some (.int k (zs.getD i 0))) ∧ ∀ n ∈ zs, (Lit.int k n).wf = true

theorem IsRow.le {k : IntKind} {w : World} {a : Option Addr} {len cap : Nat} {zs : List Int} (h : IsRow k w a len cap zs) : len ≤ 9223372036854775807 := by
  rcases h with ⟨_, rfl, _⟩ | ⟨x, _, hl, hm, _⟩
  · omega
  · unfold maxLen at hm; omega

theorem IsRow.bytes {w : World} {a0 : Option Addr} {len0 cap0 : Nat} {z0 : List Int} (h : IsRow .u8 w a0 len0 cap0 z0) :
    ∃ l : List UInt8, l.length = len0 ∧ Came w (.slice a0 len0 cap0) l ∧ ∀ j (h : j < l.length), ∃ b off, a0 = some ⟨b, off, none⟩ ∧ b < w.heap.size ∧ w.cell? ⟨b, off + j, none⟩ = some (.int .u8 (l[j].toNat : Int)) := by
  rcases h with ⟨rfl, rfl, rfl⟩ | ⟨x, rfl, hl, hm, hz, hcell, hwz⟩
  · exact ⟨[], rfl, .inl ⟨rfl, rfl⟩, fun j hj => by simp at hj⟩
  · obtain ⟨l', hl', hj'⟩ := bytes_of z0 hwz
    obtain ⟨l, hll, hj⟩ : ∃ l : List UInt8, l.length = len0 ∧ ∀ j (hj : j < l.length), z0.getD j 0 = (l[j].toNat : Int) := by
      refine ⟨l'.take len0, by simp; omega, fun j hj => ?_⟩
      rw [List.length_take] at hj
      rw [List.getElem_take]
      exact hj' j (by omega)
    subst hll
    have hc : ∀ j (h : j < l.length), x = ⟨x.block, x.off, none⟩ ∧ x.block < w.heap.size ∧ w.cell? ⟨x.block, x.off + j, none⟩ = some (.int .u8 (l[j].toNat : Int)) := by
      intro j h
      have h1 := hcell j (by omega)
      rw [hj j h] at h1
      obtain ⟨b, off, sp⟩ := x
      have hsp : sp = none := by simpa [Addr.add] using World.cell?_spot (hcell 0 (by omega))
      subst hsp
      have h2 : w.cell? ⟨b, off + j, none⟩ = some (.int .u8 (l[j].toNat : Int)) := by rw [← add_plain]; exact h1
      exact ⟨rfl, World.block_lt_of_cell? w ⟨b, off + j, none⟩ h2, h2⟩
    refine ⟨l, rfl, .inr ⟨x, cap0, rfl, hc⟩, fun j h => ?_⟩
    obtain ⟨e1, e2, e3⟩ := hc j h
    exact ⟨x.block, x.off, by rw [← e1], e2, e3⟩

theorem IsRow.ints {w : World} {a0 : Option Addr} {len0 cap0 : Nat} {z0 : List Int} (h : IsRow .i64 w a0 len0 cap0 z0) :
    Fits (fun j => z0.getD j 0) len0 ∧ ∀ j, j < len0 → ∃ b off, a0 = some ⟨b, off, none⟩ ∧ b < w.heap.size ∧ ∀ i, i < len0 → w.cell? ⟨b, off + i, none⟩ = some (.int .i64 (z0.getD i 0)) := by
  rcases h with ⟨rfl, rfl, rfl⟩ | ⟨x, rfl, hl, hm, hz, hcell, hwz⟩
  · exact ⟨fun j hj => by omega, fun j hj => by omega⟩
  · refine ⟨fun j hj => ?_, fun j hj => ?_⟩
    · have hm : z0.getD j 0 ∈ z0 := by
        rw [List.getD_eq_getElem?_getD, List.getElem?_eq_getElem (by omega), Option.getD_some]
        exact List.getElem_mem _
      exact bounds_i64 (hwz _ hm)
    · obtain ⟨b, off, sp⟩ := x
      have hsp : sp = none := by simpa [Addr.add] using World.cell?_spot (hcell 0 (by omega))
      subst hsp
      have h2 : ∀ i, i < len0 → w.cell? ⟨b, off + i, none⟩ = some (.int .i64 (z0.getD i 0)) := fun i hi => by
        rw [← add_plain]; exact hcell i (by omega)
      exact ⟨b, off, rfl, World.block_lt_of_cell? w ⟨b, off + j, none⟩ (h2 j hj), h2⟩

theorem walk (a0 : Option Addr) (len0 cap0 : Nat) (z0 : List Int) (a1 : Option Addr) (len1 cap1 : Nat) (z1 : List Int) (w : World) (w0 : IsRow .u8 w a0 len0 cap0 z0) (w1 : IsRow .i64 w a1 len1 cap1 z1)
    (hT : Lib.TabIs Tryd.prog w powName .u64 Lib.pow10Tab) :
    Calls Tryd.prog 4 #[.slice a0 len0 cap0, .slice a1 len1 cap1] w fun e w' => e = .returned (.bool true) ∧ Below w.heap.size w w' := by
  by_cases hbig : len0 + 8 * len1 ≤ 1048576
  · obtain ⟨l, hl, hca, hc⟩ := w0.bytes
    subst hl
    obtain ⟨hq, hc2⟩ := w1.ints
    exact walkB a0 a1 cap0 len1 cap1 l _ w hbig hca hc hc2 hq hT
  · exact walkB_big a0 a1 len0 cap0 len1 cap1 w w0.le w1.le hbig

set_option maxRecDepth 100000 in
theorem lifted (os : Os) (started : os.Started) (H : Type) (enc : TypeId × Value → H) :
    ReturnsInHanded {} Tryd.checked os 4 .any (fun w args => (Rows.fnAppendEdgePathParsesBackSpec.pre enc Tryd.prog Tryd.f4 [] false w args ∧ laidMetH Tryd.prog laid3 w) ∧ sizedMet enc Tryd.prog Tryd.f4 (OpenSpec.ofChange Rows.fnAppendEdgePathParsesBackSpec) false w args)
      (Rows.fnAppendEdgePathParsesBackSpec.post enc Tryd.prog Tryd.f4 false true false false) := by
  refine returnsInHanded_of_change_and (C := Tryd.checked) (X := fun w _ => laidMetH Tryd.prog laid3 w) (fun _ _ _ hh h => h.of_heap hh) own started (by kernel_rfl) Tryd.func4
    (ChangeSpec.witness_shaped (enc := enc) (C := Tryd.checked) (os := os) (X := fun w _ => laidMetH Tryd.prog laid3 w) false (World.doorLaid Tryd.prog 400 os) #[.slice none 0 0, .slice none 0 0] 8 rfl (World.shaped_of_RefB (by kernel_rfl) (by kernel_rfl)) (by kernel_rfl) (by kernel_rfl) (by kernel_rfl) (door_met os _)) ?_
  intro W base args ds gs before hval0 hW _ _ hL _
  have hval : ∀ (j : Nat) t v, Tryd.f4.params[j]? = some t → args[j]? = some v → Value.okWide Tryd.prog W .any base t v := hval0
  have hW' := hW
  obtain ⟨p, q, hA0, hV, rfl, hfz, hnd⟩ := hW
  have hA : DataW.TrodAll enc Tryd.prog W 0 (fun _ => true) true Tryd.f4.params.toList args.toList ds p := hA0
  rw [Tryd.params4] at hA hval
  obtain ⟨v0, vs0, d0, ds0, p0, q0, hargs, rfl, rfl, h0, r0⟩ := trodAll_cons hA
  obtain ⟨v1, vs1, d1, ds1, p1, q1, rfl, rfl, rfl, h1, r1⟩ := trodAll_cons r0
  obtain ⟨rfl, rfl, rfl⟩ := trodAll_nil r1
  obtain rfl : args = #[v0, v1] := by cases args; simp_all
  obtain ⟨rfl, rfl⟩ := trodVars_none hV
  obtain ⟨a0, len0, cap0, rfl⟩ := okWide_slice Tryd.underlying22 (hval 0 22 v0 rfl rfl)
  have k0 := h0
  have lt0 : ∀ x ∈ p0, x.block < W.heap.size := by obtain ⟨m, hm⟩ := k0; exact DataW.trod_lt m _ _ _ hm
  obtain ⟨z0, w0⟩ : ∃ zs : List Int, IsRow .u8 W a0 len0 cap0 zs := by
    obtain ⟨fuel, hf⟩ := h0
    rcases open_ints Tryd.underlying22 Tryd.underlying5 (by kernel_rfl) hf with ⟨hcs, _⟩ | ⟨x, l, c, zs, hcs, _, hl, hm, hz, _, hcell, hwz⟩
    · simp [Value.cells] at hcs
      obtain ⟨rfl, rfl, rfl⟩ := hcs
      exact ⟨[], .inl ⟨rfl, rfl, rfl⟩⟩
    · simp [Value.cells] at hcs
      obtain ⟨rfl, rfl, rfl⟩ := hcs
      exact ⟨zs, .inr ⟨_, rfl, hl, hm, by simpa using hz, hcell, hwz⟩⟩
  obtain ⟨a1, len1, cap1, rfl⟩ := okWide_slice Tryd.underlying28 (hval 1 28 v1 rfl rfl)
  have k1 := h1
  have lt1 : ∀ x ∈ p1, x.block < W.heap.size := by obtain ⟨m, hm⟩ := k1; exact DataW.trod_lt m _ _ _ hm
  obtain ⟨z1, w1⟩ : ∃ zs : List Int, IsRow .i64 W a1 len1 cap1 zs := by
    obtain ⟨fuel, hf⟩ := h1
    rcases open_ints Tryd.underlying28 Tryd.underlying3 (by kernel_rfl) hf with ⟨hcs, _⟩ | ⟨x, l, c, zs, hcs, _, hl, hm, hz, _, hcell, hwz⟩
    · simp [Value.cells] at hcs
      obtain ⟨rfl, rfl, rfl⟩ := hcs
      exact ⟨[], .inl ⟨rfl, rfl, rfl⟩⟩
    · simp [Value.cells] at hcs
      obtain ⟨rfl, rfl, rfl⟩ := hcs
      exact ⟨zs, .inr ⟨_, rfl, hl, hm, by simpa using hz, hcell, hwz⟩⟩
  clear hA0 hval0
  refine (walk a0 len0 cap0 z0 a1 len1 cap1 z1 W w0 w1 (of_laid hL)).mono fun e W' ⟨he, bel⟩ => ?_
  subst he
  exact ⟨_, rfl, _, _, _, [], _, [], hW', trodAll_mk1 (shut_bool Tryd.underlying4 _), (trodAll_cons_mk (Below.trod laidOut (by kernel_rfl) (of_decide_eq_true (by kernel_rfl)) k0 bel lt0) (trodAll_cons_mk (Below.trod laidOut (by kernel_rfl) (of_decide_eq_true (by kernel_rfl)) k1 bel lt1) trodAll_mk0)), rfl, bel.frame _, fun h => by cases h⟩

theorem over : Rows.FnAppendEdgePathParsesBackSaid :=
  OpenClaim.holds_of_wide 4 Tryd.f4 rfl rfl rfl rfl rfl rfl rfl ⟨rfl, rfl, rfl, rfl, rfl⟩ rfl rfl rfl rfl rfl (by kernel_rfl) Tryd.func4 (by kernel_rfl)
    (of_decide_eq_true (by kernel_rfl)) (by unfold Func.isWrapper; first | (rw [if_pos (by decide +kernel)]; kernel_rfl) | (rw [if_neg (by decide +kernel)]; exact ⟨rfl, rfl⟩))
    (fun os started H enc _ => lifted os started H enc)

/-- The statement: the tied card. -/
theorem proved : Rows.FnAppendEdgePathParsesBackCardSaid :=
  Claim7.holds_tied_plain_at .later [] [.data, .data, .data] true Rows.fnAppendEdgePathParsesBackCard.stood.harness false
    over (fun _ h => by cases h) (by kernel_rfl) (fun _ h => by cases h) fnAppendEdgePathParsesBack_row_tie rfl ⟨rfl, rfl⟩ (by kernel_rfl) rfl
    (fun f fn hf hfn => by
      obtain rfl : f = 4 := Option.some.inj ((show Tryd.prog.funcNamed Rows.fnAppendEdgePathParsesBackRow.func = some 4 by kernel_rfl).symm.trans hf) |>.symm
      obtain rfl : fn = Tryd.f4 := (Option.some.inj (Tryd.func4.symm.trans hfn)).symm
      exact ⟨by kernel_rfl, fun j t ht => by
        rw [Tryd.params4] at ht
        have hm : t ∈ [22, 28] := by simpa using Array.mem_of_getElem? ht
        have hall : ([22, 28].all fun u => !Tryd.prog.wantsStandIn u) = true := by kernel_rfl
        exact (show Tryd.prog.wantsStandIn t = false by simpa using List.all_eq_true.1 hall t hm)⟩)
    (by kernel_rfl)
#print axioms proved
end Go.Proofs.Qxb6619442aDoor.fnAppendEdgePathParsesBack
