import Derived.Test.Qxb6000626aCopier
namespace Go.Proofs.Qxb6000626a.fnCopierCopiesEachSlice
open Go.RowKit

/-- What cloneRows comes to, whatever the slice. -/
def PostRows (G : Nat) (L : Nat → Nat) (Z : Nat → List Int) (w : World) (e : Ending) (w' : World) : Prop :=
  ∃ gx X, e = .returned (.slice gx G G) ∧ Tab w' gx G X L L Z ∧ Below w.heap.size w w'

theorem rows_any (ga : Option Addr) (G Gc : Nat) (A : Nat → Option Addr) (L C : Nat → Nat) (Z : Nat → List Int) (w : World) (h : Tab w ga G A L C Z) (hga : ga = none → G = 0) (hG : G ≤ 65536) (hL : ∀ r, r < G → L r ≤ 1048576) :
    Calls Try.prog 21 #[.slice ga G Gc] w (PostRows G L Z w) := by
  cases ga with
  | none =>
    obtain rfl := hga rfl
    refine (cloneRows_nil 0 Gc w).mono ?_
    rintro e w' ⟨rfl, rfl⟩
    exact ⟨none, A, rfl, ⟨fun h => absurd h (Nat.lt_irrefl 0), fun r hr => absurd hr (Nat.not_lt_zero _), fun r hr => absurd hr (Nat.not_lt_zero _), fun r hr => absurd hr (Nat.not_lt_zero _)⟩, Below.refl _ _⟩
  | some x =>
    refine (cloneRows_some x G Gc A L C Z w h hG hL).mono ?_
    rintro e w' ⟨X, rfl, hl, hb⟩
    refine ⟨_, X, rfl, ⟨fun _ => ⟨w.heap.size, 0, rfl, fun r hr => ?_⟩, fun r hr => (hl.each r hr).rd, fun r hr hx => ?_, fun r hr => by have := hL r hr; omega⟩, hb⟩
    · rw [Nat.zero_add, hl.row.cell hr, if_pos hr]
    · have := hl.nils r hr
      rw [hx] at this
      exact h.nils r hr (by simpa using this.symm)

/-- k copies are made: the slice of copies at block O; the copier at P; the chunk C, u cells used. -/
structure Outs (wr : World) (P O G k : Nat) (X : Nat → Option Addr) (L : Nat → Nat) (Z : Nat → List Int) (Y : Nat → Option Addr) (C u : Nat) : Prop where
  row : wr.rowIs O 22 G (fun r => if r < k then .slice (Y r) (L r) (L r) else .slice none 0 0)
  each : ∀ r, r < k → RdU (P + 2) wr C u (Y r) (L r) (Z r)
  nils : ∀ r, r < k → (Y r).isNone = (X r).isNone
  st : St wr P (P + 2) C u
  room : P + 2 ≤ wr.heap.size

theorem St.setOther {w : World} {P B C u : Nat} (h : St w P B C u) {a : Addr} (hP : P ≠ a.block) (hB : a.block < B) (v : Value) : St (w.setCell a v) P B C u := by
  rcases h with ⟨h1, h2, h3⟩ | ⟨hC, cap, f, h⟩
  · exact .inl ⟨h1.setOther hP _, h2, h3⟩
  · exact .inr ⟨hC, cap, f, h.at0.setOther hP _, h.row.setOther (by omega) _, h.ne, h.le, h.cap⟩

theorem Outs.step {wr w1 : World} {P G k : Nat} {X : Nat → Option Addr} {L : Nat → Nat} {Z : Nat → List Int} {Y : Nat → Option Addr} {C u C' u' : Nat} (h : Outs wr P (P + 1) G k X L Z Y C u)
    {y : Option Addr} (hn : y.isNone = (X k).isNone) (hs : St w1 P (P + 2) C' u') (hC : (C' = C ∧ u ≤ u') ∨ wr.heap.size ≤ C') (hr : RdU (P + 2) w1 C' u' y (L k) (Z k)) (hk : Kept wr w1 P C u) :
    Outs (w1.setCell ⟨P + 1, k, none⟩ (.slice y (L k) (L k))) P (P + 1) G (k + 1) X L Z (fun r => if r = k then y else Y r) C' u' := by
  have hCO : P + 1 ≠ C := by rcases h.st with ⟨_, h2, _⟩ | ⟨h2, _⟩ <;> omega
  have hrm := h.room
  refine ⟨((h.row.of_block (hk.block (P + 1) (by omega) (by omega) hCO)).set k _).congr fun j _ => ?_, fun r hrk => ?_, fun r hrk => ?_, St.setOther hs (by simp) (by simp) _, by simpa using Nat.le_trans hrm hk.size⟩
  · by_cases e : j = k
    · subst e; simp
    · simp only [if_neg e]
      by_cases hlt : j < k
      · rw [if_pos hlt, if_pos (by omega)]
      · rw [if_neg hlt, if_neg (by omega)]
  · by_cases e : r = k
    · subst e
      simp only [if_true]
      exact hr.setCell (by simp) _
    · simp only [if_neg e]
      exact ((h.each r (by omega)).kept (by omega) hk hC).setCell (by simp) _
  · by_cases e : r = k
    · subst e; simpa using hn
    · simp only [if_neg e]; exact h.nils r (by omega)

theorem Outs.start (w : World) (G : Nat) (X : Nat → Option Addr) (L : Nat → Nat) (Z : Nat → List Int) :
    Outs ((w.alloc (.cells #[.slice none 0 0] 39)).alloc (.cells (madeCells #[.slice none 0 0] G) 22)) w.heap.size (w.heap.size + 1) G 0 X L Z (fun _ => none) w.heap.size 0 := by
  refine ⟨?_, fun r hr => absurd hr (Nat.not_lt_zero _), fun r hr => absurd hr (Nat.not_lt_zero _), .inl ⟨?_, rfl, rfl⟩, by simp⟩
  · have := World.rowIs_made (w.alloc (.cells #[.slice none 0 0] 39)) (.slice none 0 0) G 22
    rw [Deep.nblk_alloc] at this
    exact this.congr fun j _ => by simp
  · refine World.rowIs.alloc ?_ _
    exact World.rowIs_alloc w #[.slice none 0 0] 39 _ (fun i hi => by simp at hi; subst hi; rfl)

/-- The law's end: true, and nothing that was there has turned. -/
def Fin (w : World) (e : Ending) (w' : World) : Prop := e = .returned (.bool true) ∧ Below w.heap.size w w'

theorem kept_below {w wr w1 : World} {P C u : Nat} (hb : Below P w wr) (hP : P ≤ wr.heap.size) (hC : P ≤ C) (hk : Kept wr w1 P C u) : Below P w w1 :=
  hb.trans ⟨hk.os, hk.tape, hk.output, hk.size, fun k hkP => hk.block k (by omega) (by omega) (by omega)⟩

set_option maxHeartbeats 2000000 in
theorem walk_all (ga : Option Addr) (G Gc : Nat) (A : Nat → Option Addr) (L C : Nat → Nat) (Z : Nat → List Int) (w : World) (h : Tab w ga G A L C Z) (hga : ga = none → G = 0) (hGm : G ≤ 9223372036854775807) :
    Calls Try.prog 7 #[.slice ga G Gc] w (Fin w) := by
  have NG : Hid (ga = none → G = 0) := hga
  clear hga
  by_cases hG : (65536 : Int) < (G : Int)
  · go_enter Try.func7, Try.ntmps7
    go_wp2_with fail
    refine (zz20_any ga G Gc A L C Z _ h).mono ?_
    rintro e w' ⟨tb, rfl, _, rfl⟩
    cases tb
    · go_wp2_with fail
      go_ret
      exact ⟨rfl, Below.refl _ _⟩
    · go_wp2_with fail
      go_ret
      exact ⟨rfl, Below.refl _ _⟩
  · go_enter Try.func7, Try.ntmps7
    go_wp2_with fail
    refine (zz20_any ga G Gc A L C Z _ h).mono ?_
    rintro e w' ⟨tb, rfl, hL, rfl⟩
    cases tb
    · clear hL
      go_wp2_with fail
      go_ret
      exact ⟨rfl, Below.refl _ _⟩
    · have HL : Hid (∀ r, r < G → L r ≤ 1048576) := hL rfl
      clear hL
      go_wp2_with fail
      go_loopg [3, 4] G (fun g s i wr => w = wr ∧ ∃ k t : Nat, k ≤ G ∧ g = G - k ∧ i = .int .i64 k ∧ s = .int .i64 t ∧ t ≤ 1572864)
      case atStart => exact ⟨rfl, 0, 24 * G, Nat.zero_le _, rfl, rfl, by simp, by omega⟩
      case round =>
        obtain ⟨rfl, k, t, hk, rfl, rfl, rfl, ht⟩ := hrel
        by_cases hlt : k < G
        · obtain ⟨gb, go, rfl, hc⟩ := h.top (by omega)
          have hkz : (k : Int) < (G : Int) := by omega
          have g0 := hc k hlt
          have hLk := HL.out k hlt
          clear hc h
          by_cases hb2 : (1048576 : Int) < (t : Int) + (L k : Int)
          · go_wp2_with fail
            go_ret
            exact ⟨rfl, Below.refl _ _⟩
          · go_wp2_with fail
            go_roundg (G - (k + 1))
            case measure => go_light; omega
            case rel => go_light; exact ⟨rfl, k + 1, t + L k, by omega, rfl, by simp, by simp, by omega⟩
        · have hkz : ¬ ((k : Int) < (G : Int)) := by omega
          have hG2 : G ≤ 65536 := by omega
          have hmk := run_make_row' (P := Try.prog) 35 22 (.slice none 0 0) 24 Try.underlying35 Try.info22 rfl .i64 .i64 G (by omega) (by omega)
          clear ht
          go_wp2_with fail
          refine (rows_any ga G Gc A L C Z _ h NG.out hG2 HL.out).mono ?_
          rintro e wS ⟨gx, X, rfl, hT, hb⟩
          clear h
          go_wp2_with fail
          clear hmk
          have hS0 := Outs.start wS G X L Z
          have hB0 : Below wS.heap.size wS ((wS.alloc (.cells #[.slice none 0 0] 39)).alloc (.cells (madeCells #[.slice none 0 0] G) 22)) := ((Below.refl _ _).alloc (Nat.le_refl _) _).alloc (by simp) _
          go_loopg [7] G (fun g i wx => ∃ (k : Nat) (Y : Nat → Option Addr) (Ch u : Nat), k ≤ G ∧ g = G - k ∧ i = .int .i64 k ∧ Outs wx wS.heap.size (wS.heap.size + 1) G k X L Z Y Ch u ∧ Below wS.heap.size wS wx)
          case atStart => exact ⟨0, _, _, _, Nat.zero_le _, rfl, rfl, hS0, hB0⟩
          case round =>
            clear hS0 hB0 hkz hk hlt
            obtain ⟨j, Y, Ch, u, hj, rfl, rfl, hO, hB⟩ := hrel
            by_cases hlt : j < G
            · have hjz : (j : Int) < (G : Int) := by omega
              obtain ⟨gb, go, rfl, hc⟩ := hT.top (by omega)
              have g0 := cell_later hB (hc j hlt)
              have hrd := (hT.rows j hlt).mono hB
              have hLj := HL.out j hlt
              have HN : Hid (X j = none → L j = 0) := hT.nils j hlt
              have HP : Hid (0 < L j → ∀ b o, X j = some ⟨b, o, none⟩ → b ≠ wS.heap.size) := by
                intro hl b o hx
                obtain ⟨b', o', hx', hc'⟩ := (hT.rows j hlt).2 hl
                rw [hx] at hx'
                simp only [Option.some.injEq, Addr.mk.injEq, and_true] at hx'
                obtain ⟨rfl, rfl⟩ := hx'
                exact Nat.ne_of_lt (World.block_lt_of_cell? _ _ (hc' 0 hl))
              clear hc
              go_wp2_with fail
              refine (zzCopy_any wS.heap.size (wS.heap.size + 2) Ch u (X j) (L j) (L j) (Z j) _ hO.st (by omega) hO.room hrd HN.out hLj HP.out).mono ?_
              rintro e w1 ⟨y, C', u', rfl, q1, q2, q3, q4, q5⟩
              have hCO : wS.heap.size + 1 ≠ Ch := by rcases hO.st with ⟨_, h2, _⟩ | ⟨h2, _⟩ <;> omega
              have hCP : wS.heap.size ≤ Ch := by rcases hO.st with ⟨_, h2, _⟩ | ⟨h2, _⟩ <;> omega
              have hrm := hO.room
              have hbl := q5.block (wS.heap.size + 1) (by omega) (by omega) hCO
              have g1 : w1.cell? ⟨wS.heap.size + 1, j, none⟩ = some (.slice none 0 0) := by
                have := (hO.row.of_block hbl).cell hlt
                simpa using this
              have g2 : w1.frozen? ⟨wS.heap.size + 1, j, none⟩ = false := (hO.row.of_block hbl).frozen j
              have HS : Hid (Outs (w1.setCell ⟨wS.heap.size + 1, j, none⟩ (.slice y (L j) (L j))) wS.heap.size (wS.heap.size + 1) G (j + 1) X L Z (fun r => if r = j then y else Y r) C' u' ∧ Below wS.heap.size wS (w1.setCell ⟨wS.heap.size + 1, j, none⟩ (.slice y (L j) (L j)))) :=
                ⟨hO.step q1 q2 q3 q4 q5, (kept_below hB (by omega) hCP q5).setCell (by simp) _⟩
              clear q1 q2 q3 q4 q5 hbl hCO hCP hO
              go_wp2_with fail
              go_roundg (G - (j + 1))
              case measure => go_light; omega
              case rel => go_light; exact ⟨j + 1, _, _, _, by omega, rfl, by simp, HS.out.1, HS.out.2⟩
            · have hjz : ¬ ((j : Int) < (G : Int)) := by omega
              obtain ⟨wo, rfl⟩ : ∃ x, x = wr := ⟨wr, rfl⟩
              have hjG : j = G := by omega
              rw [hjG] at hO
              clear hlt hj hjG
              have HF : Hid (∀ q, Below w.heap.size w (wo.drewN q)) := fun q => below_drewN (hb.trans (hB.mono hb.size)) q
              have q22 : ∀ (w : World) (a : Option Addr) (n c n' c' : Nat), (binOp .eql 22 (.slice a n c) (.slice none n' c')).run Try.prog w = .ok (.bool a.isNone) w := fun w a n c n' c' => Lib.run_eql_slice_nil w _ _ a n c n' c' Try.underlying22
              go_wp2_with fail
              go_loopg [8] G (fun g i wx => ∃ k : Nat, k ≤ G ∧ g = G - k ∧ i = .int .i64 k ∧ ∃ q, wx = wo.drewN q)
              case atStart => exact ⟨0, Nat.zero_le _, rfl, rfl, 0, rfl⟩
              case round =>
                clear hjz
                obtain ⟨k, hk, rfl, rfl, hq⟩ := hrel
                have HQ : Hid (∃ q, wr = wo.drewN q) := hq
                clear hq
                by_cases hlt : k < G
                · have hkz : (k : Int) < (G : Int) := by omega
                  obtain ⟨gb, go, rfl, hc⟩ := hT.top (by omega)
                  have g0 : wr.cell? ⟨gb, go + k, none⟩ = some (.slice (X k) (L k) (L k)) := by obtain ⟨q, hq⟩ := HQ.out; rw [hq]; exact cell_later (below_drewN hB _) (hc k hlt)
                  have g1 : wr.cell? ⟨wS.heap.size + 1, k, none⟩ = some (.slice (Y k) (L k) (L k)) := by obtain ⟨q, hq⟩ := HQ.out; rw [hq, World.cell?_drewN, hO.row.cell hlt, if_pos hlt]
                  have HS : Hid (∀ q, Calls Try.prog 14 #[.slice (Y k) (L k) (L k), .slice (X k) (L k) (L k)] (wr.drewN q) fun e w' => e = .returned (.bool true) ∧ ∃ r, w' = (wr.drewN q).drewN r) := fun q => by
                    obtain ⟨q0, hq⟩ := HQ.out
                    have h1 : Rd (wr.drewN q) (Y k) (L k) (Z k) := by rw [hq]; exact (hO.each k hlt).rd
                    have h2 : Rd (wr.drewN q) (X k) (L k) (Z k) := by rw [hq]; exact (hT.rows k hlt).mono (below_drewN (below_drewN hB _) _)
                    exact same_true (Y k) (X k) (L k) (L k) (L k) (Z k) (wr.drewN q) h1 h2 (HL.out k hlt)
                  have hnn : (Y k).isNone = (X k).isNone := hO.nils k hlt
                  clear hc hO hT hB
                  go_wp2_with fail
                  go_quiet ((go_at_call 14; exact Calls.quiet_of (HS.out _)))
                  go_wp2_with fail
                  go_quiet (fail)
                  go_wp2_with fail
                  go_roundg (G - (k + 1))
                  case measure => go_light; omega
                  case rel => go_light; exact ⟨k + 1, by omega, rfl, by simp, by obtain ⟨q, hq⟩ := HQ.out; rw [hq]; exact ⟨_, World.drewN_drewN _ _ _⟩⟩
                · have hkz : ¬ ((k : Int) < (G : Int)) := by omega
                  go_wp2_with fail
                  go_ret
                  obtain ⟨q, hq⟩ := HQ.out
                  rw [hq]
                  exact ⟨rfl, HF.out _⟩
end Go.Proofs.Qxb6000626a.fnCopierCopiesEachSlice
