import Derived.Test.Qxb6001044aRows
import Derived.WalkKit
import Derived.WalkSpells
import Derived.WalkLawsBesides
import Derived.Deep.LoopGhost
import Derived.Deep.OwnRows
import Derived.Deep.QuietTactic
import Derived.BigQuiet
import Derived.Deep.Light
namespace Go.Proofs.Qxb6001044a
open Go.RowKit

theorem Try.info56 : (Try.prog.info? 56).map (fun i => (i.zero, i.size, i.bytes)) = some (some (.int .u16 0), 1, 2) := by kernel_rfl
theorem Try.info9 : (Try.prog.info? 9).map (fun i => (i.zero, i.size, i.bytes)) = some (some (.string ByteArray.empty), 1, 16) := by kernel_rfl
theorem Try.info5 : (Try.prog.info? 5).map (fun i => (i.zero, i.size, i.bytes)) = some (some (.int .u8 0), 1, 1) := by kernel_rfl

/-- The slice (a, n) reads the values V: cell i behind its address holds V i. -/
def Rd (w : World) (a : Option Addr) (n : Nat) (V : Nat → Value) : Prop :=
  0 < n → ∃ b o, a = some ⟨b, o, none⟩ ∧ ∀ i, i < n → w.cell? ⟨b, o + i, none⟩ = some (V i)

theorem Rd.mono {w w' : World} {a : Option Addr} {n : Nat} {V : Nat → Value} (h : Rd w a n V) (hb : Below w.heap.size w w') : Rd w' a n V := fun hn => by
  obtain ⟨b, o, ha, hc⟩ := h hn
  exact ⟨b, o, ha, fun i hi => cell_later hb (hc i hi)⟩

theorem Rd.zero (w : World) (a : Option Addr) (V : Nat → Value) : Rd w a 0 V := fun h => absurd h (Nat.lt_irrefl 0)

/-- A uint16 of a family. -/
def vU16 (z : Nat → Nat) (i : Nat) : Value := .int .u16 (z i : Int)
/-- A string of a family. -/
def str (s : Nat → ByteArray) (i : Nat) : Value := .string (s i)

/-- What a clone has laid when i cells are copied. -/
structure Cl (t : TypeId) (zero : Value) (w wr : World) (n : Nat) (V : Nat → Value) (i : Nat) : Prop where
  below : Below w.heap.size w wr
  size : wr.heap.size = w.heap.size + 1
  row : wr.rowIs w.heap.size t n (fun j => if j < i then V j else zero)

theorem Cl.start (t : TypeId) (zero : Value) (w : World) (n : Nat) (V : Nat → Value) : Cl t zero w (w.alloc (.cells (madeCells #[zero] n) t)) n V 0 :=
  ⟨(Below.refl _ _).alloc (Nat.le_refl _) _, by simp, (World.rowIs_made w _ n t).congr (fun j _ => by simp)⟩

theorem Cl.step {t : TypeId} {zero : Value} {w wr : World} {n : Nat} {V : Nat → Value} {i : Nat} (h : Cl t zero w wr n V i) :
    Cl t zero w (wr.setCell ⟨w.heap.size, i, none⟩ (V i)) n V (i + 1) := by
  refine ⟨h.below.setCell (Nat.le_refl _) _, by simp [h.size], (h.row.set i _).congr (fun j _ => ?_)⟩
  by_cases e : j = i
  · subst e; simp
  · rw [if_neg e]
    by_cases hlt : j < i
    · rw [if_pos hlt, if_pos (by omega)]
    · rw [if_neg hlt, if_neg (by omega)]

/-- What a clone comes to. -/
def PostClone (n : Nat) (V : Nat → Value) (w : World) (e : Ending) (w' : World) : Prop :=
  ∃ x : Option Addr, e = .returned (.slice x n n) ∧ Rd w' x n V ∧ (x = none → n = 0) ∧ Below w.heap.size w w'

theorem Cl.done {t : TypeId} {zero : Value} {w wr : World} {n : Nat} {V : Nat → Value} (h : Cl t zero w wr n V n) : Rd wr (some ⟨w.heap.size, 0, none⟩) n V :=
  fun _ => ⟨_, 0, rfl, fun i hi => by rw [Nat.zero_add, h.row.cell hi, if_pos hi]⟩

theorem clone16_nil (c : Nat) (w : World) : Calls Try.prog 10 #[.slice none 0 c] w fun e w' => e = .returned (.slice none 0 0) ∧ w = w' := by
  have q22 : ∀ (w : World) (a : Option Addr) (n c n' c' : Nat), (binOp .eql 22 (.slice a n c) (.slice none n' c')).run Try.prog w = .ok (.bool a.isNone) w := fun w a n c n' c' => Lib.run_eql_slice_nil w _ _ a n c n' c' Try.underlying22
  go_enter Try.func10, Try.ntmps10
  go_wp2
  go_ret
  exact ⟨rfl, rfl⟩

set_option maxHeartbeats 400000 in
theorem clone16_some (x : Addr) (n c : Nat) (z : Nat → Nat) (w : World) (hz : Rd w (some x) n (vU16 z)) (hn : n ≤ 1048576) :
    Calls Try.prog 10 #[.slice (some x) n c] w fun e w' => e = .returned (.slice (some ⟨w.heap.size, 0, none⟩) n n) ∧ Cl 56 (.int .u16 0) w w' n (vU16 z) n := by
  have q22 : ∀ (w : World) (a : Option Addr) (n c n' c' : Nat), (binOp .eql 22 (.slice a n c) (.slice none n' c')).run Try.prog w = .ok (.bool a.isNone) w := fun w a n c n' c' => Lib.run_eql_slice_nil w _ _ a n c n' c' Try.underlying22
  have hmk := run_make_row' (P := Try.prog) 22 56 (.int .u16 0) 2 Try.underlying22 Try.info56 rfl .i64 .i64 n (by omega) (by omega)
  go_enter Try.func10, Try.ntmps10
  go_wp2
  clear hmk q22
  go_loopg [4] n (fun g i wr => ∃ k : Nat, k ≤ n ∧ g = n - k ∧ i = .int .i64 k ∧ Cl 56 (.int .u16 0) w wr n (vU16 z) k)
  case atStart => exact ⟨0, Nat.zero_le _, rfl, rfl, Cl.start _ _ w n _⟩
  case round =>
    obtain ⟨k, hk, rfl, rfl, hO⟩ := hrel
    by_cases hlt : k < n
    · obtain ⟨b, o, hx, hc⟩ := hz (by omega)
      obtain rfl := Option.some.inj hx
      have hkz : (k : Int) < (n : Int) := by omega
      have g0 : wr.cell? ⟨b, o + k, none⟩ = some (.int .u16 (z k : Int)) := cell_later hO.below (hc k hlt)
      have g1 : wr.cell? ⟨w.heap.size, k, none⟩ = some (.int .u16 0) := by simpa using hO.row.cell hlt
      have g2 : wr.frozen? ⟨w.heap.size, k, none⟩ = false := hO.row.frozen k
      clear hc hx hz
      go_wp2
      go_roundg (n - (k + 1))
      case measure => go_light; omega
      case rel => go_light; exact ⟨k + 1, by omega, rfl, by simp, hO.step⟩
    · have hkz : ¬ ((k : Int) < (n : Int)) := by omega
      go_wp2
      go_ret
      obtain rfl : k = n := by omega
      exact ⟨rfl, hO⟩

theorem clone16_any (a : Option Addr) (n c : Nat) (z : Nat → Nat) (w : World) (hz : Rd w a n (vU16 z)) (hnil : a = none → n = 0) (hn : n ≤ 1048576) :
    Calls Try.prog 10 #[.slice a n c] w (PostClone n (vU16 z) w) := by
  cases a with
  | none =>
    obtain rfl := hnil rfl
    refine (clone16_nil c w).mono ?_
    rintro e w1 ⟨rfl, rfl⟩
    exact ⟨none, rfl, Rd.zero _ _ _, fun _ => rfl, Below.refl _ _⟩
  | some x =>
    refine (clone16_some x n c z w hz hn).mono ?_
    rintro e w1 ⟨rfl, hc⟩
    exact ⟨_, rfl, hc.done, fun h => by simp at h, hc.below⟩

theorem cloneS_nil (c : Nat) (w : World) : Calls Try.prog 11 #[.slice none 0 c] w fun e w' => e = .returned (.slice none 0 0) ∧ w = w' := by
  have q23 : ∀ (w : World) (a : Option Addr) (n c n' c' : Nat), (binOp .eql 23 (.slice a n c) (.slice none n' c')).run Try.prog w = .ok (.bool a.isNone) w := fun w a n c n' c' => Lib.run_eql_slice_nil w _ _ a n c n' c' Try.underlying23
  go_enter Try.func11, Try.ntmps11
  go_wp2
  go_ret
  exact ⟨rfl, rfl⟩

set_option maxHeartbeats 400000 in
theorem cloneS_some (x : Addr) (n c : Nat) (s : Nat → ByteArray) (w : World) (hz : Rd w (some x) n (str s)) (hn : n ≤ 1048576) :
    Calls Try.prog 11 #[.slice (some x) n c] w fun e w' => e = .returned (.slice (some ⟨w.heap.size, 0, none⟩) n n) ∧ Cl 9 (.string ByteArray.empty) w w' n (str s) n := by
  have q23 : ∀ (w : World) (a : Option Addr) (n c n' c' : Nat), (binOp .eql 23 (.slice a n c) (.slice none n' c')).run Try.prog w = .ok (.bool a.isNone) w := fun w a n c n' c' => Lib.run_eql_slice_nil w _ _ a n c n' c' Try.underlying23
  have hmk := run_make_row' (P := Try.prog) 23 9 (.string ByteArray.empty) 16 Try.underlying23 Try.info9 rfl .i64 .i64 n (by omega) (by omega)
  go_enter Try.func11, Try.ntmps11
  go_wp2
  clear hmk q23
  go_loopg [4] n (fun g i wr => ∃ k : Nat, k ≤ n ∧ g = n - k ∧ i = .int .i64 k ∧ Cl 9 (.string ByteArray.empty) w wr n (str s) k)
  case atStart => exact ⟨0, Nat.zero_le _, rfl, rfl, Cl.start _ _ w n _⟩
  case round =>
    obtain ⟨k, hk, rfl, rfl, hO⟩ := hrel
    by_cases hlt : k < n
    · obtain ⟨b, o, hx, hc⟩ := hz (by omega)
      obtain rfl := Option.some.inj hx
      have hkz : (k : Int) < (n : Int) := by omega
      have g0 : wr.cell? ⟨b, o + k, none⟩ = some (.string (s k)) := cell_later hO.below (hc k hlt)
      have g1 : wr.cell? ⟨w.heap.size, k, none⟩ = some (.string ByteArray.empty) := by simpa using hO.row.cell hlt
      have g2 : wr.frozen? ⟨w.heap.size, k, none⟩ = false := hO.row.frozen k
      clear hc hx hz
      go_wp2
      go_roundg (n - (k + 1))
      case measure => go_light; omega
      case rel => go_light; exact ⟨k + 1, by omega, rfl, by simp, hO.step⟩
    · have hkz : ¬ ((k : Int) < (n : Int)) := by omega
      go_wp2
      go_ret
      obtain rfl : k = n := by omega
      exact ⟨rfl, hO⟩

theorem cloneS_any (a : Option Addr) (n c : Nat) (s : Nat → ByteArray) (w : World) (hz : Rd w a n (str s)) (hnil : a = none → n = 0) (hn : n ≤ 1048576) :
    Calls Try.prog 11 #[.slice a n c] w (PostClone n (str s) w) := by
  cases a with
  | none =>
    obtain rfl := hnil rfl
    refine (cloneS_nil c w).mono ?_
    rintro e w1 ⟨rfl, rfl⟩
    exact ⟨none, rfl, Rd.zero _ _ _, fun _ => rfl, Below.refl _ _⟩
  | some x =>
    refine (cloneS_some x n c s w hz hn).mono ?_
    rintro e w1 ⟨rfl, hc⟩
    exact ⟨_, rfl, hc.done, fun h => by simp at h, hc.below⟩

end Go.Proofs.Qxb6001044a
