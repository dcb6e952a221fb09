import Derived.Test.Qxb6000626aReader
import Derived.Deep.RegionWith
namespace Go.Proofs.Qxb6000626a.fnRecordReaderByteReadsInputInOrder
open Go.RowKit

theorem zz9_true (a1 : Option Addr) (n1 c1 : Nat) (m : Int) (ok : Bool) (w : World) (h : n1 ≤ 1048576) :
    Calls Try.prog 9 #[.slice a1 n1 c1, .int .i64 m, .bool ok] w fun e w' => e = .returned (.bool true) ∧ w = w' := by
  have h1 : ¬ ((1048576 : Int) < (n1 : Int)) := by omega
  go_enter Try.func9, Try.ntmps9
  go_wp2
  go_ret
  exact ⟨rfl, rfl⟩

theorem zz9_false (a1 : Option Addr) (n1 c1 : Nat) (m : Int) (ok : Bool) (w : World) (h : ¬ n1 ≤ 1048576) :
    Calls Try.prog 9 #[.slice a1 n1 c1, .int .i64 m, .bool ok] w fun e w' => e = .returned (.bool false) ∧ w = w' := by
  have h1 : (1048576 : Int) < (n1 : Int) := by omega
  go_enter Try.func9, Try.ntmps9
  go_wp2
  go_ret
  exact ⟨rfl, rfl⟩

set_option maxHeartbeats 1000000 in
theorem walk_small (a0 : Option Addr) (len0 cap0 : Nat) (z0 : List Int) (n : Int) (ok : Bool) (w : World) (w0 : Rd w a0 len0 z0) (n0 : a0 = none → len0 = 0) (hs : len0 ≤ 1048576) (hx1 : 0 ≤ n) (hx2 : n ≤ len0) :
    Calls Try.prog 3 #[.slice a0 len0 cap0, .int .i64 n, .bool ok] w fun e w' => e = .returned (.bool true) ∧ Below w.heap.size w w' := by
  have N0 : Hid (a0 = none → len0 = 0) := n0
  clear n0
  obtain ⟨m, rfl⟩ := Int.eq_ofNat_of_zero_le hx1
  have h1 : ¬ ((1048576 : Int) < (len0 : Int)) := by omega
  have h2 : ¬ ((m : Int) < 0) := by omega
  have h3 : ¬ ((len0 : Int) < (m : Int)) := by omega
  go_enter Try.func3, Try.ntmps3
  go_wp2_with (go_at_call 9; refine (zz9_true a0 len0 cap0 m ok _ hs).mono ?_; rintro e w' ⟨rfl, rfl⟩)
  refine (clone_any a0 len0 cap0 z0 _ w0 N0.out (by omega)).mono ?_
  rintro e wA ⟨x0, rfl, hn0, hnil0, hr0, hb0⟩
  have NX : Hid (x0 = none → len0 = 0 ∧ len0 = 0) := hnil0
  clear hn0 hnil0 N0
  go_wp2_with (go_at_call 11; refine (reader_of x0 len0 len0 ok _).mono ?_; rintro e w' ⟨rfl, rfl⟩)
  have hR := RdR.new hr0 hs ok
  have hle := hb0.size
  have hB : Below wA.heap.size wA (wA.alloc (.cells #[.slice x0 len0 len0, .bool ok] 43)) := (Below.refl _ _).alloc (Nat.le_refl _) _
  have hlen := hr0.1
  have HL : Hid (z0.length = len0) := hlen
  clear hlen w0
  go_loopg [8] m (fun g i wr => ∃ k : Nat, k ≤ m ∧ g = m - k ∧ i = .int .i64 k ∧ RdR wr wA.heap.size (z0.drop k) ok ∧ Below wA.heap.size wA wr)
  case atStart => exact ⟨0, Nat.zero_le _, rfl, rfl, hR, hB⟩
  case round =>
    clear hR hB
    obtain ⟨k, hk, rfl, rfl, hR, hB⟩ := hrel
    by_cases hlt : k < m
    · have hkz : (k : Int) < (m : Int) := by omega
      obtain ⟨z, hz, hzd⟩ : ∃ z, z0.drop k = z :: z0.drop (k + 1) ∧ z0.getD k 0 = z := ⟨_, List.drop_eq_getElem_cons (by rw [HL.out]; omega), by simp [List.getD, show k < z0.length by rw [HL.out]; omega]⟩
      rw [hz] at hR
      obtain ⟨b, o, _, rfl, hc⟩ := hr0.2 (by omega)
      have g : wA.cell? ⟨b, o + k, none⟩ = some (.int .u8 z) := by rw [← hzd]; exact hc k (by omega)
      have hbl : b < wA.heap.size := World.block_lt_of_cell? _ _ g
      have hbR : b ≠ wA.heap.size := by omega
      have g0 : wr.cell? ⟨b, o + k, none⟩ = some (.int .u8 z) := cell_later hB g
      have hkl : (k : Int) < (len0 : Int) := by omega
      clear hz hzd hc hr0 g
      go_wp2_with fail
      go_region_with (go_at_call 12; refine (byte_cons wA.heap.size z (z0.drop (k + 1)) ok _ ?_).mono ?_; exact hR; rintro e w1 ⟨rfl, hR1, hO⟩; have g1 : w1.cell? ⟨b, o + k, none⟩ = some (.int .u8 z) := (hO.cell (a := ⟨b, o + k, none⟩) hbR).trans g0)
      all_goals
        (go_wp2_with (go_at_call 13; refine (ok_any wA.heap.size (z0.drop (k + 1)) ok _ ?_).mono ?_; exact hR1; rintro e w' ⟨rfl, rfl⟩)
         go_roundg (m - (k + 1))
         case measure => go_light; omega
         case rel => go_light; exact ⟨k + 1, by omega, rfl, by simp, hR1, hB.drew.trans (hO.below (Nat.le_refl _))⟩)
    · have hkz : ¬ ((k : Int) < (m : Int)) := by omega
      obtain rfl : k = m := by omega
      obtain ⟨a, c, hr, hlc, hc2, hcs⟩ := hR
      have hlen : (z0.drop k).length = len0 - k := by rw [List.length_drop, HL.out]
      rw [hlen] at hr hlc hcs
      have hbel : Below w.heap.size w wr := hb0.trans (hB.mono hle)
      have rest : ∀ q, Calls Try.prog 15 #[.pointer (some ⟨wA.heap.size, 0, none⟩)] (wr.drewN q) fun e w' => e = .returned (.slice a (len0 - k) c) ∧ w' = wr.drewN q := fun q => (reader_rest wA.heap.size a (len0 - k) c ok (wr.drewN q) hr).mono fun _ _ ⟨h, h'⟩ => ⟨h, h'.symm⟩
      by_cases hlast : k = len0
      · subst hlast
        rw [Nat.sub_self] at rest
        have hsame : ∀ x q, Calls Try.prog 14 #[.slice a 0 c, .slice x 0 0] (wr.drewN q) fun e w' => e = .returned (.bool true) ∧ ∃ r, w' = (wr.drewN q).drewN r := fun x q => same_true a x 0 c 0 [] _ (Rd.zero _ _) (Rd.zero _ _) (by omega)
        clear hr hlc hcs hc2 hlen hr0 NX
        cases x0 with
        | none =>
          go_wp2_with fail
          go_quiet (first | (go_at_call 15; exact Calls.quiet_of_same (rest _)) | (go_at_call 14; exact Calls.quiet_of (hsame _ _)))
          go_wp2
          go_ret
          exact ⟨rfl, below_drewN hbel _⟩
        | some x =>
          go_wp2_with fail
          go_quiet (first | (go_at_call 15; exact Calls.quiet_of_same (rest _)) | (go_at_call 14; exact Calls.quiet_of (hsame _ _)))
          go_wp2
          go_ret
          exact ⟨rfl, below_drewN hbel _⟩
      · obtain ⟨b, o, _, rfl, hc⟩ := hr0.2 (by omega)
        obtain ⟨b', o', _, rfl, hc'⟩ := hcs (by omega)
        have hsame : ∀ q, Calls Try.prog 14 #[.slice (some ⟨b', o', none⟩) (len0 - k) c, .slice (some ⟨b, o + k, none⟩) (len0 - k) (len0 - k)] (wr.drewN q) fun e w' => e = .returned (.bool true) ∧ ∃ r, w' = (wr.drewN q).drewN r := fun q => by
          refine same_true _ _ (len0 - k) c (len0 - k) (z0.drop k) _ ⟨hlen, fun _ => ⟨b', o', rfl, hc'⟩⟩ ⟨hlen, fun _ => ⟨b, o + k, rfl, fun i hi => ?_⟩⟩ (by omega)
          have := cell_later hB (hc (k + i) (by omega))
          rw [World.cell?_drewN, Nat.add_assoc, this]
          simp [List.getD]
        clear hr hlc hcs hc2 hlen hr0 NX hc hc'
        have hkc : ¬ ((len0 : Int) < (k : Int)) := by omega
        have hkn : ¬ len0 = k := by omega
        go_wp2_with fail
        go_quiet (first | (go_at_call 15; exact Calls.quiet_of_same (rest _)) | (go_at_call 14; exact Calls.quiet_of (hsame _)))
        go_wp2
        go_ret
        exact ⟨rfl, below_drewN hbel _⟩
end Go.Proofs.Qxb6000626a.fnRecordReaderByteReadsInputInOrder
