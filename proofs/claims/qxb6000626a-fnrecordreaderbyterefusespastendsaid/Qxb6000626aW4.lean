import Derived.Test.Qxb6000626aReader
namespace Go.Proofs.Qxb6000626a.fnRecordReaderByteRefusesPastEnd
open Go.RowKit

theorem zz16_true (a1 : Option Addr) (n1 c1 : Nat) (m : Int) (w : World) (h : n1 ≤ 1048576) :
    Calls Try.prog 16 #[.slice a1 n1 c1, .int .i64 m] w fun e w' => e = .returned (.bool true) ∧ w = w' := by
  have h1 : ¬ ((1048576 : Int) < (n1 : Int)) := by omega
  go_enter Try.func16, Try.ntmps16
  go_wp2
  go_ret
  exact ⟨rfl, rfl⟩

theorem zz16_false (a1 : Option Addr) (n1 c1 : Nat) (m : Int) (w : World) (h : ¬ n1 ≤ 1048576) :
    Calls Try.prog 16 #[.slice a1 n1 c1, .int .i64 m] w fun e w' => e = .returned (.bool false) ∧ w = w' := by
  have h1 : (1048576 : Int) < (n1 : Int) := by omega
  go_enter Try.func16, Try.ntmps16
  go_wp2
  go_ret
  exact ⟨rfl, rfl⟩

set_option maxHeartbeats 1000000 in
theorem walk_small (a0 : Option Addr) (len0 cap0 : Nat) (z0 : List Int) (ex : Int) (w : World) (w0 : Rd w a0 len0 z0) (n0 : a0 = none → len0 = 0) (hs : len0 ≤ 1048576) (hx1 : 1 ≤ ex) (hx2 : ex ≤ 65536) :
    Calls Try.prog 4 #[.slice a0 len0 cap0, .int .i64 ex] w fun e w' => e = .returned (.bool true) ∧ Below w.heap.size w w' := by
  have N0 : Hid (a0 = none → len0 = 0) := n0
  clear n0
  obtain ⟨m, rfl⟩ := Int.eq_ofNat_of_zero_le (show (0 : Int) ≤ ex by omega)
  have h1 : ¬ ((1048576 : Int) < (len0 : Int)) := by omega
  have h2 : ¬ ((m : Int) < 1) := by omega
  have h3 : ¬ ((65536 : Int) < (m : Int)) := by omega
  go_enter Try.func4, Try.ntmps4
  go_wp2_with (go_at_call 16; refine (zz16_true a0 len0 cap0 m _ hs).mono ?_; rintro e w' ⟨rfl, rfl⟩)
  refine (clone_any a0 len0 cap0 z0 _ w0 N0.out (by omega)).mono ?_
  rintro e wA ⟨x0, rfl, hn0, hnil0, hr0, hb0⟩
  clear hn0 hnil0 N0
  go_wp2_with (go_at_call 11; refine (reader_of x0 len0 len0 true _).mono ?_; rintro e w' ⟨rfl, rfl⟩)
  have hR := RdR.new hr0 hs true
  have hle := hb0.size
  have hB : Below w.heap.size w (wA.alloc (.cells #[.slice x0 len0 len0, .bool true] 43)) := hb0.alloc hle _
  have hlen := hr0.1
  have HL : Hid (z0.length = len0) := hlen
  clear hr0 hb0 hlen w0
  go_loopg [6] len0 (fun g i wr => ∃ k : Nat, k ≤ len0 ∧ g = len0 - k ∧ i = .int .i64 k ∧ RdR wr wA.heap.size (z0.drop k) true ∧ Below w.heap.size w wr)
  case atStart => exact ⟨0, Nat.zero_le _, rfl, rfl, hR, hB⟩
  case round =>
    clear hR hB
    obtain ⟨k, hk, rfl, rfl, hR, hB⟩ := hrel
    by_cases hlt : k < len0
    · have hkz : (k : Int) < (len0 : Int) := by omega
      obtain ⟨z, hz⟩ : ∃ z, z0.drop k = z :: z0.drop (k + 1) := ⟨_, List.drop_eq_getElem_cons (by rw [HL.out]; exact hlt)⟩
      rw [hz] at hR
      clear hz
      go_wp2_with fail
      refine (byte_cons wA.heap.size z (z0.drop (k + 1)) true _ hR).mono ?_
      rintro e w1 ⟨rfl, hR1, hO⟩
      go_wp2_with fail
      go_roundg (len0 - (k + 1))
      case measure => go_light; omega
      case rel => go_light; exact ⟨k + 1, by omega, rfl, by simp, hR1, hB.trans (hO.below hle)⟩
    · have hkz : ¬ ((k : Int) < (len0 : Int)) := by omega
      have he : z0.drop k = [] := List.drop_eq_nil_of_le (by rw [HL.out]; omega)
      rw [he] at hR
      clear he
      go_wp2_with (go_at_call 13; refine (ok_any wA.heap.size [] true _ hR).mono ?_; rintro e w' ⟨rfl, rfl⟩)
      go_loopg [7] m (fun g i wx => ∃ j : Nat, ∃ ok, j ≤ m ∧ g = m - j ∧ i = .int .i64 j ∧ RdR wx wA.heap.size [] ok ∧ Below w.heap.size w wx)
      case atStart => exact ⟨0, true, Nat.zero_le _, rfl, rfl, hR, hB⟩
      case round =>
        clear hR hB
        obtain ⟨j, ok, hj, rfl, rfl, hR, hB⟩ := hrel
        by_cases hjlt : j < m
        · have hjz : (j : Int) < (m : Int) := by omega
          go_wp2_with fail
          refine (byte_nil wA.heap.size ok _ hR).mono ?_
          rintro e w1 ⟨rfl, hR1, hO⟩
          obtain ⟨a, c, hr, _⟩ := id hR1
          go_wp2_with (first | (go_at_call 13; refine (ok_any wA.heap.size [] false _ hR1).mono ?_; rintro e w' ⟨rfl, rfl⟩) | (go_at_call 15; refine (reader_rest wA.heap.size a 0 c false _ hr).mono ?_; rintro e w' ⟨rfl, rfl⟩))
          go_roundg (m - (j + 1))
          case measure => go_light; omega
          case rel => go_light; exact ⟨j + 1, false, by omega, rfl, by simp, hR1, hB.trans (hO.below hle)⟩
        · have hjz : ¬ ((j : Int) < (m : Int)) := by omega
          go_wp2_with fail
          go_ret
          exact ⟨rfl, hB⟩

end Go.Proofs.Qxb6000626a.fnRecordReaderByteRefusesPastEnd
