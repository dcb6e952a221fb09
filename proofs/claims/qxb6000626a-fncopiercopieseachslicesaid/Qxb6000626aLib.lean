import Derived.Test.Qxb6000626aRows
import Derived.WalkKit
import Derived.WalkSpells
import Derived.WalkLawsBesides
import Derived.Deep.LoopGhost
import Derived.Deep.OwnRows
import Derived.Deep.QuietTactic
import Derived.BigQuiet
import Derived.Deep.Light
import Derived.Laws.CopyOwn
namespace Go.Proofs.Qxb6000626a
open Go.RowKit

theorem Try.info5 : (Try.prog.info? 5).map (fun i => (i.zero, i.size, i.bytes)) = some (some (.int .u8 0), 1, 1) := by kernel_rfl
theorem Try.info22 : (Try.prog.info? 22).map (fun i => (i.zero, i.size, i.bytes)) = some (some (.slice none 0 0), 1, 24) := by kernel_rfl

/-- The slice (a, n) reads the numbers zs in the world w: cell i behind its address holds number i. -/
def Rd (w : World) (a : Option Addr) (n : Nat) (zs : List Int) : Prop :=
  zs.length = n ∧ (0 < n → ∃ b o, a = some ⟨b, o, none⟩ ∧ ∀ i, i < n → w.cell? ⟨b, o + i, none⟩ = some (.int .u8 (zs.getD i 0)))

theorem Rd.mono {w w' : World} {a : Option Addr} {n : Nat} {zs : List Int} (h : Rd w a n zs) (hb : Below w.heap.size w w') : Rd w' a n zs := by
  refine ⟨h.1, fun hn => ?_⟩
  obtain ⟨b, o, ha, hc⟩ := h.2 hn
  exact ⟨b, o, ha, fun i hi => cell_later hb (hc i hi)⟩

theorem Rd.zero (w : World) (a : Option Addr) : Rd w a 0 [] := ⟨rfl, fun h => absurd h (Nat.lt_irrefl 0)⟩

/-- What 'cloneBytes' has laid when i bytes are copied. -/
structure Cl (w wr : World) (n : Nat) (zs : List Int) (i : Nat) : Prop where
  below : Below w.heap.size w wr
  size : wr.heap.size = w.heap.size + 1
  row : wr.rowIs w.heap.size 5 n (fun j => if j < i then .int .u8 (zs.getD j 0) else .int .u8 0)

theorem Cl.start (w : World) (n : Nat) (zs : List Int) : Cl w (w.alloc (.cells (madeCells #[.int .u8 0] n) 5)) n zs 0 :=
  ⟨(Below.refl _ _).alloc (Nat.le_refl _) _, by simp, (World.rowIs_made w _ n 5).congr (fun j _ => by simp)⟩

theorem Cl.step {w wr : World} {n : Nat} {zs : List Int} {i : Nat} (h : Cl w wr n zs i) :
    Cl w (wr.setCell ⟨w.heap.size, i, none⟩ (.int .u8 (zs.getD i 0))) n zs (i + 1) := by
  refine ⟨h.below.setCell (Nat.le_refl _) _, by simp [h.size], (h.row.set i _).congr (fun j _ => ?_)⟩
  by_cases e : j = i
  · subst e; simp
  · rw [if_neg e]
    by_cases hlt : j < i
    · rw [if_pos hlt, if_pos (by omega)]
    · rw [if_neg hlt, if_neg (by omega)]

set_option maxHeartbeats 400000 in
theorem clone_nil (n c : Nat) (w : World) :
    Calls Try.prog 10 #[.slice none n c] w fun e w' => e = .returned (.slice none 0 0) ∧ w = w' := by
  have q22 : ∀ (w : World) (a : Option Addr) (n c n' c' : Nat), (binOp .eql 22 (.slice a n c) (.slice none n' c')).run Try.prog w = .ok (.bool a.isNone) w := fun w a n c n' c' => Lib.run_eql_slice_nil w _ _ a n c n' c' Try.underlying22
  go_enter Try.func10, Try.ntmps10
  go_wp2
  go_ret
  exact ⟨rfl, rfl⟩

set_option maxHeartbeats 400000 in
theorem clone_some (x : Addr) (n c : Nat) (zs : List Int) (w : World) (hz : Rd w (some x) n zs) (hn : n ≤ 1048576) :
    Calls Try.prog 10 #[.slice (some x) n c] w fun e w' => e = .returned (.slice (some ⟨w.heap.size, 0, none⟩) n n) ∧ Cl w w' n zs n := by
  have q22 : ∀ (w : World) (a : Option Addr) (n c n' c' : Nat), (binOp .eql 22 (.slice a n c) (.slice none n' c')).run Try.prog w = .ok (.bool a.isNone) w := fun w a n c n' c' => Lib.run_eql_slice_nil w _ _ a n c n' c' Try.underlying22
  have hmk := run_make_row' (P := Try.prog) 22 5 (.int .u8 0) 1 Try.underlying22 Try.info5 rfl .i64 .i64 n (by omega) (by omega)
  go_enter Try.func10, Try.ntmps10
  go_wp2
  clear hmk q22
  go_loopg [4] n (fun g i wr => ∃ k : Nat, k ≤ n ∧ g = n - k ∧ i = .int .i64 k ∧ Cl w wr n zs k)
  case atStart => exact ⟨0, Nat.zero_le _, rfl, rfl, Cl.start w n zs⟩
  case round =>
    obtain ⟨k, hk, rfl, rfl, hO⟩ := hrel
    by_cases hlt : k < n
    · obtain ⟨b, o, hx, hc⟩ := hz.2 (by omega)
      obtain rfl := Option.some.inj hx
      have hkz : (k : Int) < (n : Int) := by omega
      have g0 : wr.cell? ⟨b, o + k, none⟩ = some (.int .u8 (zs.getD k 0)) := cell_later hO.below (hc k hlt)
      have g1 : wr.cell? ⟨w.heap.size, k, none⟩ = some (.int .u8 0) := by simpa using hO.row.cell hlt
      have g2 : wr.frozen? ⟨w.heap.size, k, none⟩ = false := hO.row.frozen k
      clear hc hx hz
      go_wp2
      go_roundg (n - (k + 1))
      case measure => go_light; omega
      case rel => go_light; exact ⟨k + 1, by omega, rfl, by simp, hO.step⟩
    · have hkz : ¬ ((k : Int) < (n : Int)) := by omega
      go_wp2
      go_ret
      obtain rfl : k = n := by omega
      exact ⟨rfl, hO⟩


set_option maxHeartbeats 400000 in
/-- 'sameBytes' of two slices that read the same numbers: true; it only reads. -/
theorem same_true (a1 a2 : Option Addr) (n c1 c2 : Nat) (zs : List Int) (w : World) (h1 : Rd w a1 n zs) (h2 : Rd w a2 n zs) (hn : n ≤ 1048576) :
    Calls Try.prog 14 #[.slice a1 n c1, .slice a2 n c2] w fun e w' => e = .returned (.bool true) ∧ ∃ q, w' = w.drewN q := by
  go_enter Try.func14, Try.ntmps14
  go_wp2
  go_loopg [5] n (fun g i wr => ∃ k : Nat, k ≤ n ∧ g = n - k ∧ i = .int .i64 k ∧ ∃ q, wr = w.drewN q)
  case atStart => exact ⟨0, Nat.zero_le _, rfl, rfl, 0, rfl⟩
  case round =>
    obtain ⟨k, hk, rfl, rfl, q, rfl⟩ := hrel
    by_cases hlt : k < n
    · obtain ⟨b1, o1, rfl, hc1⟩ := h1.2 (by omega)
      obtain ⟨b2, o2, rfl, hc2⟩ := h2.2 (by omega)
      have hkz : (k : Int) < (n : Int) := by omega
      have g1 : w.cell? ⟨b1, o1 + k, none⟩ = some (.int .u8 (zs.getD k 0)) := hc1 k hlt
      have g2 : w.cell? ⟨b2, o2 + k, none⟩ = some (.int .u8 (zs.getD k 0)) := hc2 k hlt
      clear hc1 hc2 h1 h2
      go_wp2
      go_quiet (fail)
      go_wp2
      go_roundg (n - (k + 1))
      case measure => go_light; omega
      case rel => go_light; exact ⟨k + 1, by omega, rfl, by simp, _, rfl⟩
    · have hkz : ¬ ((k : Int) < (n : Int)) := by omega
      go_wp2
      go_ret
      exact ⟨rfl, q, rfl⟩

/-! ### the reader of records -/
theorem reader_of (a : Option Addr) (n c : Nat) (ok : Bool) (w : World) :
    Calls Try.prog 11 #[.slice a n c, .bool ok] w fun e w' => e = .returned (.pointer (some ⟨w.heap.size, 0, none⟩)) ∧ w.alloc (.cells #[.slice a n c, .bool ok] 43) = w' := by
  go_enter Try.func11, Try.ntmps11
  go_wp2
  go_ret
  exact ⟨rfl, rfl⟩

/-- The reader at block B: what is left to read, and its mark. -/
def Rdr (w : World) (B : Nat) (a : Option Addr) (n c : Nat) (ok : Bool) : Prop :=
  w.heap[B]? = some (.cells #[.slice a n c, .bool ok] 43 (0, 0))

theorem Rdr.cells {w : World} {B : Nat} {a : Option Addr} {n c : Nat} {ok : Bool} (h : Rdr w B a n c ok) :
    w.cell? ⟨B, 0, none⟩ = some (.slice a n c) ∧ w.cell? ⟨B, 1, none⟩ = some (.bool ok) ∧ w.frozen? ⟨B, 0, none⟩ = false ∧ w.frozen? ⟨B, 1, none⟩ = false := by
  unfold Rdr at h
  refine ⟨?_, ?_, ?_, ?_⟩ <;> simp [World.cell?, World.frozen?, h]

theorem reader_ok (B : Nat) (a : Option Addr) (n c : Nat) (ok : Bool) (w : World) (h : Rdr w B a n c ok) :
    Calls Try.prog 13 #[.pointer (some ⟨B, 0, none⟩)] w fun e w' => e = .returned (.bool ok) ∧ w = w' := by
  obtain ⟨g0, g1, _, _⟩ := h.cells
  go_enter Try.func13, Try.ntmps13
  go_wp2
  go_ret
  exact ⟨rfl, rfl⟩

theorem reader_rest (B : Nat) (a : Option Addr) (n c : Nat) (ok : Bool) (w : World) (h : Rdr w B a n c ok) :
    Calls Try.prog 15 #[.pointer (some ⟨B, 0, none⟩)] w fun e w' => e = .returned (.slice a n c) ∧ w = w' := by
  obtain ⟨g0, g1, _, _⟩ := h.cells
  go_enter Try.func15, Try.ntmps15
  go_wp2
  go_ret
  exact ⟨rfl, rfl⟩

theorem byte_end (B : Nat) (a : Option Addr) (c : Nat) (ok : Bool) (w : World) (h : Rdr w B a 0 c ok) :
    Calls Try.prog 12 #[.pointer (some ⟨B, 0, none⟩)] w fun e w' => e = .returned (.int .u8 0) ∧ w.setCell ⟨B, 1, none⟩ (.bool false) = w' := by
  obtain ⟨g0, g1, g2, g3⟩ := h.cells
  go_enter Try.func12, Try.ntmps12
  go_wp2
  go_ret
  exact ⟨rfl, rfl⟩


theorem byte_more (B b o n c : Nat) (z : Int) (ok : Bool) (w : World) (h : Rdr w B (some ⟨b, o, none⟩) n c ok) (hn : 0 < n) (_hc : n ≤ c) (_hcm : c ≤ 1048576) (hz : w.cell? ⟨b, o, none⟩ = some (.int .u8 z)) :
    Calls Try.prog 12 #[.pointer (some ⟨B, 0, none⟩)] w fun e w' => e = .returned (.int .u8 z) ∧ w.setCell ⟨B, 0, none⟩ (.slice (some ⟨b, if c = 1 then o else o + 1, none⟩) (n - 1) (c - 1)) = w' := by
  obtain ⟨g0, g1, g2, g3⟩ := h.cells
  have hn1 : ((n : Int) == 0) = false := beq_eq_false_iff_ne.2 (by omega)
  go_enter Try.func12, Try.ntmps12
  go_wp2
  all_goals (go_ret; exact ⟨rfl, rfl⟩)

end Go.Proofs.Qxb6000626a
