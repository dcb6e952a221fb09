import Derived.Test.Qxb6001044aWL
namespace Go.Proofs.Qxb6001044a
open Go.RowKit

theorem count_take (bs : List Bool) (k : Nat) (h : k < bs.length) : (bs.take (k + 1)).count true = (bs.take k).count true + (if bs.getD k false then 1 else 0) := by
  rw [List.take_succ_eq_append_getElem h, List.count_append]
  congr 1
  simp only [List.getD, List.getElem?_eq_getElem h, Option.getD_some]
  cases bs[k] <;> simp

/-- Exactly one of four. -/
def vld (a b c d : Bool) : Bool := ([a, b, c, d].count true : Int) == 1

set_option maxHeartbeats 1000000 in
theorem valid22 (v0 v1 v2 : Option Addr) (fl : Int) (w : World) :
    Calls Try.prog 22 #[.agg #[.pointer v0, .pointer v1, .pointer v2, .int .u64 fl]] w (PostV (.bool (vld v0.isSome v1.isSome v2.isSome (decide (0 < fl)))) w) := by
  go_enter Try.func22, Try.ntmps22
  go_wp2
  obtain ⟨bs, hbs⟩ : ∃ bs, bs = [v0.isSome, v1.isSome, v2.isSome, decide (0 < fl)] := ⟨_, rfl⟩
  have HB : Hid (bs = [v0.isSome, v1.isSome, v2.isSome, decide (0 < fl)]) := hbs
  obtain ⟨W, hW⟩ : ∃ W, W = (w.alloc (.cells #[.pointer v0, .pointer v1, .pointer v2, .int .u64 fl] 50)).alloc (.cells #[.bool v0.isSome, .bool v1.isSome, .bool v2.isSome, .bool (decide (0 < fl))] 4) := ⟨_, rfl⟩
  have hcell : ∀ k, k < 4 → W.cell? ⟨w.heap.size + 1, k, none⟩ = some (.bool (bs.getD k false)) := by
    intro k hk
    rw [hW, hbs]
    match k, hk with
    | 0, _ => simp [go_sem]
    | 1, _ => simp [go_sem]
    | 2, _ => simp [go_sem]
    | 3, _ => simp [go_sem]
  have hbel : Below w.heap.size w W := by rw [hW]; exact ((Below.refl _ _).alloc (Nat.le_refl _) _).alloc (by simp) _
  have hl : bs.length = 4 := by rw [hbs]; rfl
  rw [← hW]
  have HL : Hid (bs.length = 4) := hl
  clear hbs hW hl
  go_loopg [3, 20] 4 (fun g s i wr => W = wr ∧ ∃ k : Nat, k ≤ 4 ∧ g = 4 - k ∧ i = .int .i64 k ∧ s = .int .i64 ((bs.take k).count true : Nat))
  case atStart => exact ⟨rfl, 0, Nat.zero_le _, rfl, rfl, rfl⟩
  case round =>
    obtain ⟨rfl, k, hk, rfl, rfl, rfl⟩ := hrel
    have hle : (bs.take k).count true ≤ k := Nat.le_trans List.count_le_length (by simp; omega)
    by_cases hlt : k < 4
    · have hkz : (k : Int) < 4 := by omega
      have g0 := hcell k hlt
      have HC : Hid ((bs.take (k + 1)).count true = (bs.take k).count true + (if bs.getD k false then 1 else 0)) := count_take bs k (by rw [HL.out]; exact hlt)
      generalize hb : bs.getD k false = b at g0
      have HBb : Hid (bs.getD k false = b) := hb
      clear hb hcell
      generalize hct : (bs.take k).count true = ct at hle ⊢
      have HCT : Hid ((bs.take k).count true = ct) := hct
      clear hct
      cases b
      · go_wp2
        go_roundg (4 - (k + 1))
        case measure => go_light; omega
        case rel => go_light; exact ⟨rfl, k + 1, by omega, rfl, by simp, by rw [HC.out, HBb.out, HCT.out]; simp⟩
      · go_wp2
        go_roundg (4 - (k + 1))
        case measure => go_light; omega
        case rel => go_light; exact ⟨rfl, k + 1, by omega, rfl, by simp, by rw [HC.out, HBb.out, HCT.out]; simp⟩
    · have hkz : ¬ ((k : Int) < 4) := by omega
      have hke : bs.take k = bs := List.take_of_length_le (by rw [HL.out]; omega)
      rw [hke] at hle ⊢
      clear hcell hke
      generalize hct : bs.count true = ct at hle ⊢
      have HCT : Hid (bs.count true = ct) := hct
      clear hct
      go_wp2
      go_ret
      refine ⟨?_, hbel⟩
      show Ending.returned (.bool ((ct : Int) == 1)) = _
      rw [vld, ← HB.out, HCT.out]

theorem valid_any (v0 v1 v2 : Option Addr) (fl : Int) (w : World) :
    Calls Try.prog 19 #[.agg #[.pointer v0, .pointer v1, .pointer v2, .int .u64 fl]] w (PostV (.bool (vld v0.isSome v1.isSome v2.isSome (decide (0 < fl)))) w) := by
  generalize hV : vld v0.isSome v1.isSome v2.isSome (decide (0 < fl)) = vb
  have HV : Hid (vld v0.isSome v1.isSome v2.isSome (decide (0 < fl)) = vb) := hV
  clear hV
  go_enter Try.func19, Try.ntmps19
  go_wp2_with fail
  refine (valid22 v0 v1 v2 fl _).mono ?_
  rintro e w1 ⟨rfl, hb⟩
  rw [HV.out]
  go_wp2_with fail
  go_ret
  exact ⟨rfl, ((Below.refl _ _).alloc (Nat.le_refl _) _).trans (hb.mono (by simp))⟩
end Go.Proofs.Qxb6001044a
