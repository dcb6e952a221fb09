import Derived.Test.Qxb6001044aBase
namespace Go.Proofs.Qxb6001044a
open Go.RowKit

/-- A byte of a family. -/
def vU8 (z : Nat → Int) (i : Nat) : Value := .int .u8 (z i)

set_option maxHeartbeats 400000 in
/-- zzSameBytes of two slices that read the same bytes: true; it only reads. -/
theorem same_bytes (a1 a2 : Option Addr) (n c1 c2 : Nat) (z : Nat → Int) (w : World) (h1 : Rd w a1 n (vU8 z)) (h2 : Rd w a2 n (vU8 z)) (hn : n ≤ 1048576) :
    Calls Try.prog 16 #[.slice a1 n c1, .slice a2 n c2] w fun e w' => e = .returned (.bool true) ∧ ∃ q, w' = w.drewN q := by
  go_enter Try.func16, Try.ntmps16
  go_wp2
  go_loopg [5] n (fun g i wr => ∃ k : Nat, k ≤ n ∧ g = n - k ∧ i = .int .i64 k ∧ ∃ q, wr = w.drewN q)
  case atStart => exact ⟨0, Nat.zero_le _, rfl, rfl, 0, rfl⟩
  case round =>
    obtain ⟨k, hk, rfl, rfl, q, rfl⟩ := hrel
    by_cases hlt : k < n
    · obtain ⟨b1, o1, rfl, hc1⟩ := h1 (by omega)
      obtain ⟨b2, o2, rfl, hc2⟩ := h2 (by omega)
      have hkz : (k : Int) < (n : Int) := by omega
      have g1 : w.cell? ⟨b1, o1 + k, none⟩ = some (.int .u8 (z k)) := hc1 k hlt
      have g2 : w.cell? ⟨b2, o2 + k, none⟩ = some (.int .u8 (z k)) := hc2 k hlt
      clear hc1 hc2 h1 h2
      go_wp2
      go_quiet (fail)
      go_wp2
      go_roundg (n - (k + 1))
      case measure => go_light; omega
      case rel => go_light; exact ⟨k + 1, by omega, rfl, by simp, _, rfl⟩
    · have hkz : ¬ ((k : Int) < (n : Int)) := by omega
      go_wp2
      go_ret
      exact ⟨rfl, q, rfl⟩

/-- The slice (a, n) of slots reads the authors au and the rounds ar: two cells a slot. -/
def RdSlots (w : World) (a : Option Addr) (n : Nat) (au : Nat → ByteArray) (ar : Nat → Int) : Prop :=
  0 < n → ∃ b o, a = some ⟨b, o, none⟩ ∧ ∀ i, i < n → w.cell? ⟨b, o + i * 2, none⟩ = some (.string (au i)) ∧ w.cell? ⟨b, o + i * 2 + 1, none⟩ = some (.int .u64 (ar i))

theorem RdSlots.mono {w w' : World} {a : Option Addr} {n : Nat} {au : Nat → ByteArray} {ar : Nat → Int} (h : RdSlots w a n au ar) (hb : Below w.heap.size w w') : RdSlots w' a n au ar := fun hn => by
  obtain ⟨b, o, ha, hc⟩ := h hn
  exact ⟨b, o, ha, fun i hi => ⟨cell_later hb (hc i hi).1, cell_later hb (hc i hi).2⟩⟩

set_option maxHeartbeats 400000 in
/-- zzSameSlots of a slice and itself. -/
theorem same_slots (a : Option Addr) (n c1 c2 : Nat) (au : Nat → ByteArray) (ar : Nat → Int) (w : World) (h : RdSlots w a n au ar) (hn : n ≤ 1048576) :
    Calls Try.prog 15 #[.slice a n c1, .slice a n c2] w fun e w' => e = .returned (.bool true) ∧ ∃ q, w' = w.drewN q := by
  go_enter Try.func15, Try.ntmps15
  go_wp2
  go_loopg [5] n (fun g i wr => ∃ k : Nat, k ≤ n ∧ g = n - k ∧ i = .int .i64 k ∧ ∃ q, wr = w.drewN q)
  case atStart => exact ⟨0, Nat.zero_le _, rfl, rfl, 0, rfl⟩
  case round =>
    obtain ⟨k, hk, rfl, rfl, q, rfl⟩ := hrel
    by_cases hlt : k < n
    · obtain ⟨b, o, rfl, hc⟩ := h (by omega)
      have hkz : (k : Int) < (n : Int) := by omega
      obtain ⟨g1, g2⟩ := hc k hlt
      clear hc h
      go_wp2
      go_quiet (fail)
      go_wp2
      go_roundg (n - (k + 1))
      case measure => go_light; omega
      case rel => go_light; exact ⟨k + 1, by omega, rfl, by simp, _, rfl⟩
    · have hkz : ¬ ((k : Int) < (n : Int)) := by omega
      go_wp2
      go_ret
      exact ⟨rfl, q, rfl⟩

theorem clip_any (f : Int) (n : Nat) (w : World) (h0 : 0 ≤ f) (hn : n ≤ 1048576) :
    Calls Try.prog 14 #[.int .u64 f, .int .i64 (n : Int)] w fun e w' => e = .returned (.int .i64 ((min f.toNat n : Nat) : Int)) ∧ w = w' := by
  by_cases h : f < (n : Int)
  · have e : ((min f.toNat n : Nat) : Int) = f := by omega
    rw [e]
    clear e
    go_enter Try.func14, Try.ntmps14
    go_wp2
    go_ret
    exact ⟨rfl, rfl⟩
  · have e : ((min f.toNat n : Nat) : Int) = n := by omega
    rw [e]
    clear e
    go_enter Try.func14, Try.ntmps14
    go_wp2
    go_ret
    exact ⟨rfl, rfl⟩
end Go.Proofs.Qxb6001044a
