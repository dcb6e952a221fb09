import Derived.Test.Qxb6001044aEntry
namespace Go.Proofs.Qxb6001044a
open Go.RowKit

theorem four_cells {w : World} {B : Nat} {v0 v1 v2 v3 : Value} {t : TypeId} (h : w.heap[B]? = some (.cells #[v0, v1, v2, v3] t (0, 0))) :
    w.cell? ⟨B, 0, none⟩ = some v0 ∧ w.cell? ⟨B, 1, none⟩ = some v1 ∧ w.cell? ⟨B, 2, none⟩ = some v2 ∧ w.cell? ⟨B, 3, none⟩ = some v3 := by
  refine ⟨?_, ?_, ?_, ?_⟩ <;> simp [World.cell?, h]

set_option maxHeartbeats 1000000 in
theorem walk7 (hp : Bool) (rp : Int) (he : Bool) (re : Int) (hc : Bool) (rc fl : Int) (w : World) :
    Calls Try.prog 7 #[.bool hp, .int .u64 rp, .bool he, .int .u64 re, .bool hc, .int .u64 rc, .int .u64 fl] w (PostV (.bool true) w) := by
  obtain ⟨r, hr⟩ : ∃ r, rnd hp rp he re hc rc = r := ⟨_, rfl⟩
  have HR : Hid (rnd hp rp he re hc rc = r) := hr
  clear hr
  go_enter Try.func7, Try.ntmps7
  go_wp2_with fail
  refine (entry_any hp rp he re hc rc fl _).mono ?_
  rintro e w1 ⟨v0, v1, v2, rfl, p0, p1, p2, b1⟩
  go_wp2_with fail
  refine (entry_any hp rp he re hc rc 0 _).mono ?_
  rintro e w2 ⟨u0, u1, u2, rfl, q0, q1, q2, b2⟩
  have hB2 : Below w.heap.size w w2 := (b1.alloc b1.size _).trans (b2.mono (by simp; have := b1.size; omega))
  have hlt : w1.heap.size < w2.heap.size := by have := b2.size; simp at this; omega
  have blk1 := (b2.block w1.heap.size (by simp)).trans (Deep.blk_alloc_new w1 _)
  have r0 := ((p0.mono ((Below.refl _ _).alloc (Nat.le_refl _) _)).mono b2)
  have r1 := ((p1.mono ((Below.refl _ _).alloc (Nat.le_refl _) _)).mono b2)
  have r2 := ((p2.mono ((Below.refl _ _).alloc (Nat.le_refl _) _)).mono b2)
  have k : ∀ o, _ := fun o => four_cells ((Deep.blk_alloc_lt w2 o _ hlt).trans blk1)
  have k0 := fun o => (k o).1
  have k1 := fun o => (k o).2.1
  have k2 := fun o => (k o).2.2.1
  have k3 := fun o => (k o).2.2.2
  clear k blk1 p0 p1 p2 b1 b2
  have al : ∀ o, Below w2.heap.size w2 (w2.alloc o) := fun o => (Below.refl _ _).alloc (Nat.le_refl _) _
  go_wp2_with fail
  refine (round_any v0 v1 v2 hp rp he re hc rc fl _ (r0.mono (al _)) (r1.mono (al _)) (r2.mono (al _))).mono ?_
  rintro e w3 ⟨rfl, b3⟩
  rw [HR.out]
  have hB3 := (hB2.alloc hB2.size (.cells #[.pointer u0, .pointer u1, .pointer u2, .int .u64 0] 50)).trans (b3.mono (by simp; have := hB2.size; omega))
  obtain ⟨m0, m1, m2, m3⟩ := four_cells ((b3.block w2.heap.size (by simp)).trans (Deep.blk_alloc_new w2 _))
  have s0 := (q0.mono (al (.cells #[.pointer u0, .pointer u1, .pointer u2, .int .u64 0] 50))).mono b3
  have s1 := (q1.mono (al (.cells #[.pointer u0, .pointer u1, .pointer u2, .int .u64 0] 50))).mono b3
  have s2 := (q2.mono (al (.cells #[.pointer u0, .pointer u1, .pointer u2, .int .u64 0] 50))).mono b3
  clear k0 k1 k2 k3 r0 r1 r2 q0 q1 q2 b3 al
  go_wp2_with fail
  refine (round_any u0 u1 u2 hp rp he re hc rc 0 _ s0 s1 s2).mono ?_
  rintro e w4 ⟨rfl, b4⟩
  rw [HR.out]
  have hB4 := hB3.trans (b4.mono hB3.size)
  clear s0 s1 s2 m0 m1 m2 m3 b4 hB3 hB2
  cases hp
  · cases he
    · cases hc
      · obtain rfl : 0 = r := HR.out
        go_wp2_with fail
        go_ret
        exact ⟨rfl, hB4⟩
      · obtain rfl : rc = r := HR.out
        go_wp2_with fail
        go_ret
        exact ⟨by simp, hB4⟩
    · obtain rfl : re = r := HR.out
      cases hc
      all_goals
        (go_wp2_with fail
         go_ret
         exact ⟨by simp, hB4⟩)
  · obtain rfl : rp = r := HR.out
    cases he <;> cases hc
    all_goals
      (go_wp2_with fail
       go_ret
       exact ⟨by simp, hB4⟩)

end Go.Proofs.Qxb6001044a
