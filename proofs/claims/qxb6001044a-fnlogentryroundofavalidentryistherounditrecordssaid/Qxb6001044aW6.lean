import Derived.Test.Qxb6001044aValid
namespace Go.Proofs.Qxb6001044a
open Go.RowKit

theorem Ptr.isSome {w : World} {v : Option Addr} {has : Bool} {off : Nat} {r : Int} (h : Ptr w v has off r) : v.isSome = has := by
  rcases h with ⟨rfl, rfl⟩ | ⟨rfl, b, rfl, _⟩ <;> rfl

set_option maxHeartbeats 2000000 in
theorem walk6 (hp : Bool) (rp : Int) (he : Bool) (re : Int) (hc : Bool) (rc fl : Int) (w : World) :
    Calls Try.prog 6 #[.bool hp, .int .u64 rp, .bool he, .int .u64 re, .bool hc, .int .u64 rc, .int .u64 fl] w (PostV (.bool true) w) := by
  obtain ⟨r, hr⟩ : ∃ r, rnd hp rp he re hc rc = r := ⟨_, rfl⟩
  have HR : Hid (rnd hp rp he re hc rc = r) := hr
  clear hr
  go_enter Try.func6, Try.ntmps6
  go_wp2_with fail
  refine (entry_any hp rp he re hc rc fl _).mono ?_
  rintro e w1 ⟨v0, v1, v2, rfl, p0, p1, p2, b1⟩
  go_wp2_with fail
  refine (valid_any v0 v1 v2 fl _).mono ?_
  rintro e w2 ⟨rfl, b2⟩
  rw [p0.isSome, p1.isSome, p2.isSome]
  generalize hV : vld hp he hc (decide (0 < fl)) = vb
  have HV : Hid (vld hp he hc (decide (0 < fl)) = vb) := hV
  clear hV
  have hB2 : Below w.heap.size w w2 := (b1.alloc b1.size _).trans (b2.mono (by simp; have := b1.size; omega))
  obtain ⟨k0, k1, k2, k3⟩ := four_cells ((b2.block w1.heap.size (by simp)).trans (Deep.blk_alloc_new w1 _))
  have r0 := ((p0.mono ((Below.refl _ _).alloc (Nat.le_refl _) _)).mono b2)
  have r1 := ((p1.mono ((Below.refl _ _).alloc (Nat.le_refl _) _)).mono b2)
  have r2 := ((p2.mono ((Below.refl _ _).alloc (Nat.le_refl _) _)).mono b2)
  clear p0 p1 p2 b1 b2
  cases vb
  · clear r0 r1 r2 k0 k1 k2 k3
    go_wp2_with fail
    go_ret
    exact ⟨rfl, hB2⟩
  · cases hp <;> cases he <;> cases hc
    all_goals first
      | (exfalso
         have h := HV.out
         revert h
         cases decide (0 < fl) <;> decide)
      | (go_wp2_with fail
         refine (round_any v0 v1 v2 _ rp _ re _ rc fl _ r0 r1 r2).mono ?_
         rintro e w3 ⟨rfl, b3⟩
         rw [HR.out]
         have hB3 := hB2.trans (b3.mono hB2.size)
         obtain rfl := HR.out
         go_wp2_with fail
         go_ret
         exact ⟨by simp [rnd], hB3⟩)
end Go.Proofs.Qxb6001044a
