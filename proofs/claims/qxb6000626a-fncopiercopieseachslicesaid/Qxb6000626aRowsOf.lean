import Derived.Test.Qxb6000626aCopy
namespace Go.Proofs.Qxb6000626a
open Go.RowKit

/-- What is known of a slice of byte slices: row r is the slice (A r, L r, C r) and reads Z r. -/
structure Tab (w : World) (ga : Option Addr) (G : Nat) (A : Nat → Option Addr) (L C : Nat → Nat) (Z : Nat → List Int) : Prop where
  top : 0 < G → ∃ gb go, ga = some ⟨gb, go, none⟩ ∧ ∀ r, r < G → w.cell? ⟨gb, go + r, none⟩ = some (.slice (A r) (L r) (C r))
  rows : ∀ r, r < G → Rd w (A r) (L r) (Z r)
  nils : ∀ r, r < G → A r = none → L r = 0
  lens : ∀ r, r < G → L r ≤ 9223372036854775807

theorem Tab.mono {w w' : World} {ga : Option Addr} {G : Nat} {A : Nat → Option Addr} {L C : Nat → Nat} {Z : Nat → List Int} (h : Tab w ga G A L C Z) (hb : Below w.heap.size w w') : Tab w' ga G A L C Z :=
  ⟨fun hG => by obtain ⟨gb, go, ha, hc⟩ := h.top hG; exact ⟨gb, go, ha, fun r hr => cell_later hb (hc r hr)⟩, fun r hr => (h.rows r hr).mono hb, h.nils, h.lens⟩

/-- What zzBytes_FnCopierCopiesEachSlice comes to. -/
def Post20 (G : Nat) (L : Nat → Nat) (w : World) (e : Ending) (w' : World) : Prop := ∃ tb, e = .returned (.bool tb) ∧ (tb = true → ∀ r, r < G → L r ≤ 1048576) ∧ w = w'

set_option maxHeartbeats 400000 in
/-- zzBytes_FnCopierCopiesEachSlice: it answers; yes means that no row is longer than 1<<20. -/
theorem zz20_any (ga : Option Addr) (G Gc : Nat) (A : Nat → Option Addr) (L C : Nat → Nat) (Z : Nat → List Int) (w : World) (h : Tab w ga G A L C Z) :
    Calls Try.prog 20 #[.slice ga G Gc] w (Post20 G L w) := by
  by_cases hbig : (1048576 : Int) < (G : Int)
  · go_enter Try.func20, Try.ntmps20
    go_wp2
    go_ret
    exact ⟨false, rfl, fun h => by simp at h, rfl⟩
  · go_enter Try.func20, Try.ntmps20
    go_wp2
    go_loopg [3, 4] G (fun g s i wr => wr = w ∧ ∃ k : Nat, ∃ t : Nat, k ≤ G ∧ g = G - k ∧ i = .int .i64 k ∧ s = .int .i64 t ∧ t ≤ 1048576 ∧ ∀ r, r < k → L r ≤ 1048576)
    case atStart => exact ⟨rfl, 0, G, Nat.zero_le _, rfl, rfl, rfl, by omega, fun r hr => absurd hr (Nat.not_lt_zero _)⟩
    case round =>
      obtain ⟨rfl, k, t, hk, rfl, rfl, rfl, ht, hall⟩ := hrel
      have HA : Hid (∀ r, r < k → L r ≤ 1048576) := hall
      clear hall
      by_cases hlt : k < G
      · obtain ⟨gb, go, rfl, hc⟩ := h.top (by omega)
        have hkz : (k : Int) < (G : Int) := by omega
        have g0 := hc k hlt
        have hL := h.lens k hlt
        clear hc h
        by_cases hb1 : (1048576 : Int) < (L k : Int)
        · go_wp2
          go_ret
          exact ⟨false, rfl, fun h => by simp at h, rfl⟩
        · by_cases hb2 : (1048576 : Int) < (t : Int) + (L k : Int)
          · go_wp2
            go_ret
            exact ⟨false, rfl, fun h => by simp at h, rfl⟩
          · go_wp2
            go_roundg (G - (k + 1))
            case measure => go_light; omega
            case rel =>
              go_light
              refine ⟨rfl, k + 1, t + L k, by omega, rfl, by simp, by simp, by omega, fun r hr => ?_⟩
              by_cases e : r = k
              · subst e; omega
              · exact HA.out r (by omega)
      · have hkz : ¬ ((k : Int) < (G : Int)) := by omega
        obtain rfl : k = G := by omega
        go_wp2
        go_ret
        exact ⟨true, rfl, fun _ => HA.out, rfl⟩

/-- k rows of n are laid: block N holds the slices (X r, L r, L r), each reading Z r, in blocks from B on; nil just where A r is. -/
structure Laid (wr : World) (N B n k : Nat) (A : Nat → Option Addr) (L : Nat → Nat) (Z : Nat → List Int) (X : Nat → Option Addr) : Prop where
  row : wr.rowIs N 22 n (fun r => if r < k then .slice (X r) (L r) (L r) else .slice none 0 0)
  each : ∀ r, r < k → RdF B wr (X r) (L r) (Z r)
  nils : ∀ r, r < k → (X r).isNone = (A r).isNone

theorem Laid.start (w : World) (n B : Nat) (A : Nat → Option Addr) (L : Nat → Nat) (Z : Nat → List Int) : Laid (w.alloc (.cells (madeCells #[.slice none 0 0] n) 22)) w.heap.size B n 0 A L Z (fun _ => none) :=
  ⟨(World.rowIs_made w _ n 22).congr (fun j _ => by simp), fun r hr => absurd hr (Nat.not_lt_zero _), fun r hr => absurd hr (Nat.not_lt_zero _)⟩

/-- One row more: what the call of cloneBytes has made, stored. -/
theorem Laid.step {wr w1 : World} {N B n k : Nat} {A : Nat → Option Addr} {L : Nat → Nat} {Z : Nat → List Int} {X : Nat → Option Addr} (h : Laid wr N B n k A L Z X) (hNB : N < B) (hN : N < wr.heap.size) (hB : B ≤ wr.heap.size)
    {x : Option Addr} (hx : RdF wr.heap.size w1 x (L k) (Z k)) (hn : x.isNone = (A k).isNone) (hb : Below wr.heap.size wr w1) :
    Laid (w1.setCell ⟨N, k, none⟩ (.slice x (L k) (L k))) N B n (k + 1) A L Z (fun r => if r = k then x else X r) := by
  refine ⟨((h.row.of_block (hb.block _ hN)).set k _).congr fun j _ => ?_, fun r hr => ?_, fun r hr => ?_⟩
  · by_cases e : j = k
    · subst e; simp
    · simp only [if_neg e]
      by_cases hlt : j < k
      · rw [if_pos hlt, if_pos (by omega)]
      · rw [if_neg hlt, if_neg (by omega)]
  · by_cases e : r = k
    · subst e
      simp only [if_true]
      exact (hx.less hB).setCell hNB _
    · simp only [if_neg e]
      exact ((h.each r (by omega)).mono hb).setCell hNB _
  · by_cases e : r = k
    · subst e; simpa using hn
    · simp only [if_neg e]; exact h.nils r (by omega)

/-- What cloneRows comes to. -/
def Post21 (G : Nat) (A : Nat → Option Addr) (L : Nat → Nat) (Z : Nat → List Int) (w : World) (e : Ending) (w' : World) : Prop :=
  ∃ X, e = .returned (.slice (some ⟨w.heap.size, 0, none⟩) G G) ∧ Laid w' w.heap.size (w.heap.size + 1) G G A L Z X ∧ Below w.heap.size w w'

set_option maxHeartbeats 400000 in
theorem cloneRows_some (x : Addr) (G Gc : Nat) (A : Nat → Option Addr) (L C : Nat → Nat) (Z : Nat → List Int) (w : World) (h : Tab w (some x) G A L C Z) (hG : G ≤ 65536) (hL : ∀ r, r < G → L r ≤ 1048576) :
    Calls Try.prog 21 #[.slice (some x) G Gc] w (Post21 G A L Z w) := by
  have q35 : ∀ (w : World) (a : Option Addr) (n c n' c' : Nat), (binOp .eql 35 (.slice a n c) (.slice none n' c')).run Try.prog w = .ok (.bool a.isNone) w := fun w a n c n' c' => Lib.run_eql_slice_nil w _ _ a n c n' c' Try.underlying35
  have hmk := run_make_row' (P := Try.prog) 35 22 (.slice none 0 0) 24 Try.underlying35 Try.info22 rfl .i64 .i64 G (by omega) (by omega)
  go_enter Try.func21, Try.ntmps21
  go_wp2
  clear hmk q35
  go_loopg [4] G (fun g i wr => ∃ k : Nat, ∃ X, k ≤ G ∧ g = G - k ∧ i = .int .i64 k ∧ Laid wr w.heap.size (w.heap.size + 1) G k A L Z X ∧ Below w.heap.size w wr ∧ w.heap.size + 1 ≤ wr.heap.size)
  case atStart => exact ⟨0, _, Nat.zero_le _, rfl, rfl, Laid.start w G _ A L Z, (Below.refl _ _).alloc (Nat.le_refl _) _, by simp⟩
  case round =>
    obtain ⟨k, X, hk, rfl, rfl, hO, hB, hsz⟩ := hrel
    by_cases hlt : k < G
    · obtain ⟨gb, go, hx, hc⟩ := h.top (by omega)
      obtain rfl := Option.some.inj hx
      have hkz : (k : Int) < (G : Int) := by omega
      have g0 := cell_later hB (hc k hlt)
      have hr := (h.rows k hlt).mono hB
      have HN : Hid (A k = none → L k = 0) := h.nils k hlt
      have hLk := hL k hlt
      clear hc hx h
      go_wp2_with fail
      refine (clone_any (A k) (L k) (C k) (Z k) _ hr HN.out hLk).mono ?_
      rintro e w1 ⟨y, rfl, hny, _, hry, hb1⟩
      have HNY : Hid (y.isNone = (A k).isNone) := hny
      have hsz1 := hb1.size
      have g1 : w1.cell? ⟨w.heap.size, k, none⟩ = some (.slice none 0 0) := by
        rw [hb1.cell (p := ⟨w.heap.size, k, none⟩) (by exact hsz)]
        simpa using hO.row.cell hlt
      have g2 : w1.frozen? ⟨w.heap.size, k, none⟩ = false := by
        rw [hb1.frozen (p := ⟨w.heap.size, k, none⟩) (by exact hsz)]
        exact hO.row.frozen k
      clear hny
      go_wp2_with fail
      go_roundg (G - (k + 1))
      case measure => go_light; omega
      case rel => go_light; exact ⟨k + 1, _, by omega, rfl, by simp, hO.step (Nat.lt_succ_self _) hsz hsz hry HNY.out hb1, (hB.trans (hb1.mono (by omega))).setCell (Nat.le_refl _) _, by simp; omega⟩
    · have hkz : ¬ ((k : Int) < (G : Int)) := by omega
      obtain rfl : k = G := by omega
      go_wp2_with fail
      go_ret
      exact ⟨X, rfl, hO, hB⟩

theorem cloneRows_nil (G Gc : Nat) (w : World) :
    Calls Try.prog 21 #[.slice none G Gc] w fun e w' => e = .returned (.slice none 0 0) ∧ w = w' := by
  have q35 : ∀ (w : World) (a : Option Addr) (n c n' c' : Nat), (binOp .eql 35 (.slice a n c) (.slice none n' c')).run Try.prog w = .ok (.bool a.isNone) w := fun w a n c n' c' => Lib.run_eql_slice_nil w _ _ a n c n' c' Try.underlying35
  go_enter Try.func21, Try.ntmps21
  go_wp2
  go_ret
  exact ⟨rfl, rfl⟩

end Go.Proofs.Qxb6000626a
