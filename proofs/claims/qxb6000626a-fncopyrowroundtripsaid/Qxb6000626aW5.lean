import Derived.Test.Qxb6000626aCopy
namespace Go.Proofs.Qxb6000626a.fnCopyRowRoundTrip
open Go.RowKit

set_option maxHeartbeats 1000000 in
theorem walk_small (a0 : Option Addr) (len0 cap0 : Nat) (z0 : List Int) (a1 : Option Addr) (len1 cap1 : Nat) (z1 : List Int) (w : World) (w0 : Rd w a0 len0 z0) (w1 : Rd w a1 len1 z1) (n0 : a0 = none → len0 = 0) (n1 : a1 = none → len1 = 0) (hs : len0 + len1 ≤ 1048576) :
    Calls Try.prog 5 #[.slice a0 len0 cap0, .slice a1 len1 cap1] w fun e w' => e = .returned (.bool true) ∧ Below w.heap.size w w' := by
  have q22 : ∀ (w : World) (a : Option Addr) (n c n' c' : Nat), (binOp .eql 22 (.slice a n c) (.slice none n' c')).run Try.prog w = .ok (.bool a.isNone) w := fun w a n c n' c' => Lib.run_eql_slice_nil w _ _ a n c n' c' Try.underlying22
  have N0 : Hid (a0 = none → len0 = 0) := n0
  have N1 : Hid (a1 = none → len1 = 0) := n1
  clear n0 n1
  have h1 : ¬ ((1048576 : Int) < (len0 : Int)) := by omega
  have h2 : ¬ ((1048576 : Int) < (len1 : Int)) := by omega
  have h3 : ¬ ((1048576 : Int) < (len0 : Int) + (len1 : Int)) := by omega
  go_enter Try.func5, Try.ntmps5
  go_wp2_with (go_at_call 17; refine (zz17_true a0 a1 len0 cap0 len1 cap1 _ hs).mono ?_; rintro e w' ⟨rfl, rfl⟩)
  refine (clone_any a0 len0 cap0 z0 _ w0 N0.out (by omega)).mono ?_
  rintro e wA ⟨x0, rfl, hn0, hnil0, hr0, hb0⟩
  clear hn0 hnil0
  go_wp2_with fail
  refine (clone_any a1 len1 cap1 z1 _ (w1.mono hb0) N1.out (by omega)).mono ?_
  rintro e wB ⟨x1, rfl, hn1, hnil1, hr1, hb1⟩
  have HI1 : Hid (x1 = none → len1 = 0 ∧ len1 = 0) := hnil1
  clear hn1 hnil1
  go_wp2_with fail
  refine (zzCopyRow x0 x1 len0 len0 len1 len1 z0 z1 _ (hr0.rd.mono hb1) hr1.rd HI1.out hs).mono ?_
  rintro e wC ⟨y0, y1, rfl, hb2, hy0, hy1, hnn⟩
  have HNN : Hid (y1.isNone = x1.isNone) := hnn
  clear hnn
  have e0 : Rd wC x0 len0 z0 := (hr0.rd.mono hb1).mono hb2
  have e1 : Rd wC x1 len1 z1 := hr1.rd.mono hb2
  have f0 := hy0.rd
  have f1 := hy1.rd
  clear hy0 hy1
  have hB : Below w.heap.size w wC := (hb0.trans (hb1.mono hb0.size)).trans (hb2.mono (Nat.le_trans hb0.size hb1.size))
  have hAl : ∀ o q, Below wC.heap.size wC ((wC.alloc o).drewN q) := fun o q => below_drewN ((Below.refl _ _).alloc (Nat.le_refl _) _) q
  go_wp2_with fail
  refine (same_true y0 x0 len0 len0 len0 z0 _ (f0.mono (hAl _ 0)) (e0.mono (hAl _ 0)) (by omega)).mono ?_
  rintro e wD ⟨rfl, q1, rfl⟩
  go_wp2_with fail
  refine (same_true y1 x1 len1 len1 len1 z1 _ (f1.mono (hAl _ _)) (e1.mono (hAl _ _)) (by omega)).mono ?_
  rintro e wE ⟨rfl, q2, rfl⟩
  go_wp2_with fail
  go_ret
  refine ⟨?_, ?_⟩
  · rw [HNN.out]; simp
  · exact hB.trans ((hAl _ _).mono hB.size)


end Go.Proofs.Qxb6000626a.fnCopyRowRoundTrip
