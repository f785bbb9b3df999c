import Derived.Test.Qxb6617947aArr
import Derived.Test.Qxb6617947aPlain
namespace Go.Proofs.Qxb6617947a
open Go.RowKit

set_option maxHeartbeats 400000 in
theorem zz_sym (ps pd pk pw s d made n : Nat) (ks wd : Int) (w : World) (hs : s < n) (hn : n ≤ 512) (hm : made ≤ 512) (hc : d = made ∨ (d < made ∧ ks / 65536 ≤ wd ∧ w.cell? ⟨pw, d, none⟩ = some (.int .u64 wd)))
    (cs : w.cell? ⟨ps, 0, none⟩ = some (.int .i64 (s : Int))) (cd : w.cell? ⟨pd, 0, none⟩ = some (.int .i64 (d : Int))) (ck : w.cell? ⟨pk, s, none⟩ = some (.int .u64 ks)) (fs : w.frozen? ⟨ps, 0, none⟩ = false) (hne : ps ≠ pk) :
    Calls Try.prog 8 #[.pointer (some ⟨ps, 0, none⟩), .pointer (some ⟨pd, 0, none⟩), .int .i64 (made : Int), .int .i64 (n : Int), .pointer (some ⟨pk, 0, none⟩), .pointer (some ⟨pw, 0, none⟩)] w fun e w' =>
      e = .returned (.tuple #[.int .u64 (ks / 65536), .int .i64 (s : Int)]) ∧ Stp w ps (.int .i64 ((s : Int) + 1)) w' := by
  have H : Hid (Calls Try.prog 22 #[.pointer (some ⟨ps, 0, none⟩), .pointer (some ⟨pd, 0, none⟩), .int .i64 (made : Int), .int .i64 (n : Int), .pointer (some ⟨pk, 0, none⟩), .pointer (some ⟨pw, 0, none⟩)] w fun e w' =>
      e = .returned (.tuple #[.int .u64 (ks / 65536), .int .i64 (s : Int)]) ∧ Stp w ps (.int .i64 ((s : Int) + 1)) w') := by
    rcases hc with hc | ⟨h1, h2, cw⟩
    · exact take_sym_all ps pd pk pw s d made n ks w hs hn hc hm cs cd ck fs hne
    · exact take_sym_le ps pd pk pw s d made n ks wd w hs hn h1 hm h2 cs cd ck cw fs hne
  clear hc cs cd ck fs
  go_enter Try.func8, Try.ntmps8
  go_wp2_with fail
  refine H.out.mono ?_
  rintro e w' ⟨rfl, hst⟩
  go_wp2
  go_ret2
  exact ⟨rfl, hst⟩

set_option maxHeartbeats 400000 in
theorem zz_node (ps pd pk pw s d made n : Nat) (ks wd : Int) (w : World) (hd : d < made) (hn : n ≤ 512) (hm : made ≤ 512) (hc : s = n ∨ (s < n ∧ wd < ks / 65536 ∧ w.cell? ⟨pk, s, none⟩ = some (.int .u64 ks)))
    (cs : w.cell? ⟨ps, 0, none⟩ = some (.int .i64 (s : Int))) (cd : w.cell? ⟨pd, 0, none⟩ = some (.int .i64 (d : Int))) (cw : w.cell? ⟨pw, d, none⟩ = some (.int .u64 wd)) (fd : w.frozen? ⟨pd, 0, none⟩ = false) (hne : pd ≠ pw) :
    Calls Try.prog 8 #[.pointer (some ⟨ps, 0, none⟩), .pointer (some ⟨pd, 0, none⟩), .int .i64 (made : Int), .int .i64 (n : Int), .pointer (some ⟨pk, 0, none⟩), .pointer (some ⟨pw, 0, none⟩)] w fun e w' =>
      e = .returned (.tuple #[.int .u64 wd, .int .i64 ((n : Int) + (d : Int))]) ∧ Stp w pd (.int .i64 ((d : Int) + 1)) w' := by
  have H : Hid (Calls Try.prog 22 #[.pointer (some ⟨ps, 0, none⟩), .pointer (some ⟨pd, 0, none⟩), .int .i64 (made : Int), .int .i64 (n : Int), .pointer (some ⟨pk, 0, none⟩), .pointer (some ⟨pw, 0, none⟩)] w fun e w' =>
      e = .returned (.tuple #[.int .u64 wd, .int .i64 ((n : Int) + (d : Int))]) ∧ Stp w pd (.int .i64 ((d : Int) + 1)) w') := by
    rcases hc with hc | ⟨h1, h2, ck⟩
    · exact take_node_all ps pd pk pw s d made n wd w hc hn hd hm cs cd cw fd hne
    · exact take_node_gt ps pd pk pw s d made n ks wd w h1 hn hd hm h2 cs cd ck cw fd hne
  clear hc cs cd cw fd
  go_enter Try.func8, Try.ntmps8
  go_wp2_with fail
  refine H.out.mono ?_
  rintro e w' ⟨rfl, hst⟩
  go_wp2
  go_ret2
  exact ⟨rfl, hst⟩

end Go.Proofs.Qxb6617947a
