import Derived.Test.Qxb6001044aBase
namespace Go.Proofs.Qxb6001044a
open Go.RowKit

/-- It answers a bool and turns nothing. -/
def PostAny (w : World) (e : Ending) (w' : World) : Prop := ∃ tb, e = .returned (.bool tb) ∧ w = w'

set_option maxHeartbeats 1000000 in
theorem zz8_any (a1 a2 a3 : Option Addr) (n1 c1 n2 c2 n3 c3 : Nat) (s : Nat → ByteArray) (i1 i2 : Int) (w : World) (h3 : Rd w a3 n3 (str s)) (hs : ∀ i, i < n3 → (s i).size ≤ 9223372036854775807) :
    Calls Try.prog 8 #[.slice a1 n1 c1, .slice a2 n2 c2, .slice a3 n3 c3, .int .u64 i1, .int .u64 i2] w (PostAny w) := by
  by_cases b1 : (1048576 : Int) < (n1 : Int)
  · go_enter Try.func8, Try.ntmps8
    go_wp2
    go_ret
    exact ⟨_, rfl, rfl⟩
  by_cases b2 : (1048576 : Int) < (n2 : Int)
  · go_enter Try.func8, Try.ntmps8
    go_wp2
    go_ret
    exact ⟨_, rfl, rfl⟩
  by_cases b3 : (1048576 : Int) < (n1 : Int) + (n2 : Int)
  · go_enter Try.func8, Try.ntmps8
    go_wp2
    go_ret
    exact ⟨_, rfl, rfl⟩
  by_cases b4 : (1048576 : Int) < (n3 : Int)
  · go_enter Try.func8, Try.ntmps8
    go_wp2
    go_ret
    exact ⟨_, rfl, rfl⟩
  by_cases b5 : (1048576 : Int) < (n1 : Int) + (n2 : Int) + (n3 : Int)
  · go_enter Try.func8, Try.ntmps8
    go_wp2
    go_ret
    exact ⟨_, rfl, rfl⟩
  have HS : Hid (∀ i, i < n3 → (s i).size ≤ 9223372036854775807) := hs
  clear hs
  go_enter Try.func8, Try.ntmps8
  go_wp2
  go_loopg [11, 12] n3 (fun g t i wr => w = wr ∧ ∃ k u : Nat, k ≤ n3 ∧ g = n3 - k ∧ i = .int .i64 k ∧ t = .int .i64 u ∧ u ≤ 1048576)
  case atStart => exact ⟨rfl, 0, n1 + n2 + n3, Nat.zero_le _, rfl, rfl, by simp, by omega⟩
  case round =>
    obtain ⟨rfl, k, u, hk, rfl, rfl, rfl, hu⟩ := hrel
    by_cases hlt : k < n3
    · have hkz : (k : Int) < (n3 : Int) := by omega
      obtain ⟨b, o, rfl, hc⟩ := h3 (by omega)
      have g0 : w.cell? ⟨b, o + k, none⟩ = some (.string (s k)) := hc k hlt
      have hsz := HS.out k hlt
      clear hc h3
      by_cases d1 : (1048576 : Int) < ((s k).size : Int)
      · go_wp2
        go_ret
        exact ⟨_, rfl, rfl⟩
      · by_cases d2 : (1048576 : Int) < (u : Int) + ((s k).size : Int)
        · go_wp2
          go_ret
          exact ⟨_, rfl, rfl⟩
        · go_wp2
          go_roundg (n3 - (k + 1))
          case measure => go_light; omega
          case rel => go_light; exact ⟨rfl, k + 1, u + (s k).size, by omega, rfl, by simp, by simp, by omega⟩
    · have hkz : ¬ ((k : Int) < (n3 : Int)) := by omega
      go_wp2
      go_ret
      exact ⟨_, rfl, rfl⟩

set_option maxHeartbeats 1000000 in
theorem zz17_any (a1 a2 a3 : Option Addr) (n1 c1 n2 c2 n3 c3 : Nat) (s : Nat → ByteArray) (i1 i2 : Int) (w : World) (h3 : Rd w a3 n3 (str s)) (hs : ∀ i, i < n3 → (s i).size ≤ 9223372036854775807) :
    Calls Try.prog 17 #[.slice a1 n1 c1, .slice a2 n2 c2, .slice a3 n3 c3, .int .u64 i1, .int .u64 i2] w (PostAny w) := by
  by_cases b1 : (1048576 : Int) < (n1 : Int)
  · go_enter Try.func17, Try.ntmps17
    go_wp2
    go_ret
    exact ⟨_, rfl, rfl⟩
  by_cases b2 : (1048576 : Int) < (n2 : Int)
  · go_enter Try.func17, Try.ntmps17
    go_wp2
    go_ret
    exact ⟨_, rfl, rfl⟩
  by_cases b3 : (1048576 : Int) < (n1 : Int) + (n2 : Int)
  · go_enter Try.func17, Try.ntmps17
    go_wp2
    go_ret
    exact ⟨_, rfl, rfl⟩
  by_cases b4 : (1048576 : Int) < (n3 : Int)
  · go_enter Try.func17, Try.ntmps17
    go_wp2
    go_ret
    exact ⟨_, rfl, rfl⟩
  by_cases b5 : (1048576 : Int) < (n1 : Int) + (n2 : Int) + (n3 : Int)
  · go_enter Try.func17, Try.ntmps17
    go_wp2
    go_ret
    exact ⟨_, rfl, rfl⟩
  have HS : Hid (∀ i, i < n3 → (s i).size ≤ 9223372036854775807) := hs
  clear hs
  go_enter Try.func17, Try.ntmps17
  go_wp2
  go_loopg [11, 12] n3 (fun g t i wr => w = wr ∧ ∃ k u : Nat, k ≤ n3 ∧ g = n3 - k ∧ i = .int .i64 k ∧ t = .int .i64 u ∧ u ≤ 1048576)
  case atStart => exact ⟨rfl, 0, n1 + n2 + n3, Nat.zero_le _, rfl, rfl, by simp, by omega⟩
  case round =>
    obtain ⟨rfl, k, u, hk, rfl, rfl, rfl, hu⟩ := hrel
    by_cases hlt : k < n3
    · have hkz : (k : Int) < (n3 : Int) := by omega
      obtain ⟨b, o, rfl, hc⟩ := h3 (by omega)
      have g0 : w.cell? ⟨b, o + k, none⟩ = some (.string (s k)) := hc k hlt
      have hsz := HS.out k hlt
      clear hc h3
      by_cases d1 : (1048576 : Int) < ((s k).size : Int)
      · go_wp2
        go_ret
        exact ⟨_, rfl, rfl⟩
      · by_cases d2 : (1048576 : Int) < (u : Int) + ((s k).size : Int)
        · go_wp2
          go_ret
          exact ⟨_, rfl, rfl⟩
        · go_wp2
          go_roundg (n3 - (k + 1))
          case measure => go_light; omega
          case rel => go_light; exact ⟨rfl, k + 1, u + (s k).size, by omega, rfl, by simp, by simp, by omega⟩
    · have hkz : ¬ ((k : Int) < (n3 : Int)) := by omega
      go_wp2
      go_ret
      exact ⟨_, rfl, rfl⟩

/-- What zzChainTooBig comes to: 'no' means that the lengths are small. -/
def PostBig (n1 n2 n3 : Nat) (s : Nat → ByteArray) (w : World) (e : Ending) (w' : World) : Prop :=
  ∃ tb, e = .returned (.bool tb) ∧ (tb = false → n1 ≤ 65536 ∧ n2 ≤ 65536 ∧ n3 ≤ 65536 ∧ ∀ i, i < n3 → (s i).size ≤ 1048576) ∧ w = w'

set_option maxHeartbeats 1000000 in
theorem big_any (a1 a2 a3 : Option Addr) (n1 c1 n2 c2 n3 c3 : Nat) (z : Nat → Nat) (s : Nat → ByteArray) (w : World) (h1 : Rd w a1 n1 (vU16 z)) (h3 : Rd w a3 n3 (str s)) (hz : ∀ i, i < n1 → z i ≤ 65535) (hs : ∀ i, i < n3 → (s i).size ≤ 9223372036854775807) :
    Calls Try.prog 9 #[.slice a1 n1 c1, .slice a2 n2 c2, .slice a3 n3 c3] w (PostBig n1 n2 n3 s w) := by
  have HS : Hid (∀ i, i < n3 → (s i).size ≤ 9223372036854775807) := hs
  have HZ : Hid (∀ i, i < n1 → z i ≤ 65535) := hz
  clear hs hz
  by_cases b1 : (65536 : Int) < (n1 : Int)
  · go_enter Try.func9, Try.ntmps9
    go_wp2
    go_ret
    exact ⟨true, rfl, fun h => by simp at h, rfl⟩
  by_cases b2 : (65536 : Int) < (n2 : Int)
  · go_enter Try.func9, Try.ntmps9
    go_wp2
    go_ret
    exact ⟨true, rfl, fun h => by simp at h, rfl⟩
  by_cases b3 : (65536 : Int) < (n3 : Int)
  · go_enter Try.func9, Try.ntmps9
    go_wp2
    go_ret
    exact ⟨true, rfl, fun h => by simp at h, rfl⟩
  by_cases b4 : (1048576 : Int) < 2 * (n1 : Int) + 2 * (n2 : Int) + 16 * (n3 : Int)
  · go_enter Try.func9, Try.ntmps9
    go_wp2
    go_ret
    exact ⟨true, rfl, fun h => by simp at h, rfl⟩
  go_enter Try.func9, Try.ntmps9
  go_wp2
  go_loopg [7, 8] n3 (fun g t i wr => w = wr ∧ ∃ k u : Nat, k ≤ n3 ∧ g = n3 - k ∧ i = .int .i64 k ∧ t = .int .u64 u ∧ u ≤ 1048576 ∧ ∀ i, i < k → (s i).size ≤ 1048576)
  case atStart => exact ⟨rfl, 0, 2 * n1 + 2 * n2 + 16 * n3, Nat.zero_le _, rfl, rfl, by simp, by omega, fun i hi => absurd hi (Nat.not_lt_zero _)⟩
  case round =>
    obtain ⟨rfl, k, u, hk, rfl, rfl, rfl, hu, hall⟩ := hrel
    have HA : Hid (∀ i, i < k → (s i).size ≤ 1048576) := hall
    clear hall
    by_cases hlt : k < n3
    · have hkz : (k : Int) < (n3 : Int) := by omega
      obtain ⟨b, o, rfl, hc⟩ := h3 (by omega)
      have g0 : w.cell? ⟨b, o + k, none⟩ = some (.string (s k)) := hc k hlt
      have hsz := HS.out k hlt
      clear hc h3
      by_cases d2 : (1048576 : Int) < (u : Int) + ((s k).size : Int)
      · go_wp2
        go_ret
        exact ⟨true, rfl, fun h => by simp at h, rfl⟩
      · go_wp2
        go_roundg (n3 - (k + 1))
        case measure => go_light; omega
        case rel =>
          go_light
          refine ⟨rfl, k + 1, u + (s k).size, by omega, rfl, by simp, by simp, by omega, fun i hi => ?_⟩
          by_cases e : i = k
          · subst e; omega
          · exact HA.out i (by omega)
    · have hkz : ¬ ((k : Int) < (n3 : Int)) := by omega
      have hke : k = n3 := by omega
      have HF : Hid (n1 ≤ 65536 ∧ n2 ≤ 65536 ∧ n3 ≤ 65536 ∧ ∀ i, i < n3 → (s i).size ≤ 1048576) := ⟨by omega, by omega, by omega, by rw [← hke]; exact HA.out⟩
      clear hke HA
      go_wp2
      go_loopg [9, 10] n1 (fun g t i wr => w = wr ∧ ∃ j d : Nat, j ≤ n1 ∧ g = n1 - j ∧ i = .int .i64 j ∧ t = .int .u64 d ∧ d ≤ j * 65535)
      case atStart => exact ⟨rfl, 0, 0, Nat.zero_le _, rfl, rfl, rfl, by omega⟩
      case round =>
        clear hkz hk hlt
        obtain ⟨rfl, j, d, hj, rfl, rfl, rfl, hd⟩ := hrel
        by_cases hlt : j < n1
        · have hjz : (j : Int) < (n1 : Int) := by omega
          obtain ⟨b, o, rfl, hc⟩ := h1 (by omega)
          have g0 : w.cell? ⟨b, o + j, none⟩ = some (.int .u16 (z j : Int)) := hc j hlt
          have hzj := HZ.out j hlt
          have hd2 : d ≤ 4294901760 := by omega
          have HD : Hid (d ≤ j * 65535) := hd
          clear hc h1 hd
          go_wp2
          go_roundg (n1 - (j + 1))
          case measure => go_light; omega
          case rel => go_light; exact ⟨rfl, j + 1, d + z j, by omega, rfl, by simp, by simp, by have := HD.out; omega⟩
        · have hjz : ¬ ((j : Int) < (n1 : Int)) := by omega
          clear hd
          go_wp2
          go_ret
          exact ⟨_, rfl, fun _ => HF.out, rfl⟩
end Go.Proofs.Qxb6001044a
