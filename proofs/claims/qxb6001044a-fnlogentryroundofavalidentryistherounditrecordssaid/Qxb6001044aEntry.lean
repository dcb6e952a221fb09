import Derived.Test.Qxb6001044aRows
import Derived.WalkKit
import Derived.WalkSpells
import Derived.WalkLawsBesides
import Derived.Deep.LoopGhost
import Derived.Deep.OwnRows
import Derived.Deep.QuietTactic
import Derived.BigQuiet
import Derived.Deep.Light
namespace Go.Proofs.Qxb6001044a
open Go.RowKit

/-- A pointer field of an entry: nil; or it leads to a struct whose cell 'off' holds the round r. -/
def Ptr (w : World) (v : Option Addr) (has : Bool) (off : Nat) (r : Int) : Prop :=
  (has = false ∧ v = none) ∨ (has = true ∧ ∃ b, v = some ⟨b, 0, none⟩ ∧ w.cell? ⟨b, off, none⟩ = some (.int .u64 r))

theorem Ptr.mono {w w' : World} {v : Option Addr} {has : Bool} {off : Nat} {r : Int} (h : Ptr w v has off r) (hb : Below w.heap.size w w') : Ptr w' v has off r := by
  rcases h with h | ⟨h, b, hv, hc⟩
  · exact .inl h
  · exact .inr ⟨h, b, hv, cell_later hb hc⟩

/-- What zzEntry comes to. -/
def PostEntry (hp : Bool) (rp : Int) (he : Bool) (re : Int) (hc : Bool) (rc fl : Int) (w : World) (e : Ending) (w' : World) : Prop :=
  ∃ v0 v1 v2 : Option Addr, e = .returned (.agg #[.pointer v0, .pointer v1, .pointer v2, .int .u64 fl]) ∧ Ptr w' v0 hp 1 rp ∧ Ptr w' v1 he 1 re ∧ Ptr w' v2 hc 0 rc ∧ Below w.heap.size w w'

theorem ptr_no (w : World) (off : Nat) (r : Int) : Ptr w none false off r := .inl ⟨rfl, rfl⟩
theorem ptr_yes {w : World} {b off : Nat} {r : Int} (h : w.cell? ⟨b, off, none⟩ = some (.int .u64 r)) : Ptr w (some ⟨b, 0, none⟩) true off r := .inr ⟨rfl, b, rfl, h⟩

set_option maxHeartbeats 1000000 in
theorem entry_any (hp : Bool) (rp : Int) (he : Bool) (re : Int) (hc : Bool) (rc fl : Int) (w : World) :
    Calls Try.prog 18 #[.bool hp, .int .u64 rp, .bool he, .int .u64 re, .bool hc, .int .u64 rc, .int .u64 fl] w (PostEntry hp rp he re hc rc fl w) := by
  cases hp <;> cases he <;> cases hc
  · go_enter Try.func18, Try.ntmps18
    go_wp2
    refine bodyPost_ret (v := .agg #[.pointer none, .pointer none, .pointer none, .int .u64 fl]) (by simp [results, Try.results18, go_sem]) rfl ⟨_, _, _, rfl, ?_, ?_, ?_, ?_⟩
    · exact ptr_no _ _ _
    · exact ptr_no _ _ _
    · exact ptr_no _ _ _
    · exact ((Below.refl _ _).alloc (Nat.le_refl _) _).alloc (by simp) _
  · go_enter Try.func18, Try.ntmps18
    go_wp2
    refine bodyPost_ret (v := .agg #[.pointer none, .pointer none, .pointer (some ⟨w.heap.size + 2, 0, none⟩), .int .u64 fl]) (by simp [results, Try.results18, go_sem]) rfl ⟨_, _, _, rfl, ?_, ?_, ?_, ?_⟩
    · exact ptr_no _ _ _
    · exact ptr_no _ _ _
    · exact ptr_yes (by simp [go_sem])
    · exact ((Below.refl _ _).alloc (Nat.le_refl _) _).alloc (by simp) _ |>.alloc (by simp; omega) _
  · go_enter Try.func18, Try.ntmps18
    go_wp2
    refine bodyPost_ret (v := .agg #[.pointer none, .pointer (some ⟨w.heap.size + 2, 0, none⟩), .pointer none, .int .u64 fl]) (by simp [results, Try.results18, go_sem]) rfl ⟨_, _, _, rfl, ?_, ?_, ?_, ?_⟩
    · exact ptr_no _ _ _
    · exact ptr_yes (by simp [go_sem])
    · exact ptr_no _ _ _
    · exact ((Below.refl _ _).alloc (Nat.le_refl _) _).alloc (by simp) _ |>.alloc (by simp; omega) _
  · go_enter Try.func18, Try.ntmps18
    go_wp2
    refine bodyPost_ret (v := .agg #[.pointer none, .pointer (some ⟨w.heap.size + 2, 0, none⟩), .pointer (some ⟨w.heap.size + 3, 0, none⟩), .int .u64 fl]) (by simp [results, Try.results18, go_sem]) rfl ⟨_, _, _, rfl, ?_, ?_, ?_, ?_⟩
    · exact ptr_no _ _ _
    · exact ptr_yes (by simp [go_sem])
    · exact ptr_yes (by simp [go_sem])
    · exact ((Below.refl _ _).alloc (Nat.le_refl _) _).alloc (by simp) _ |>.alloc (by simp; omega) _ |>.alloc (by simp; omega) _
  · go_enter Try.func18, Try.ntmps18
    go_wp2
    refine bodyPost_ret (v := .agg #[.pointer (some ⟨w.heap.size + 2, 0, none⟩), .pointer none, .pointer none, .int .u64 fl]) (by simp [results, Try.results18, go_sem]) rfl ⟨_, _, _, rfl, ?_, ?_, ?_, ?_⟩
    · exact ptr_yes (by simp [go_sem])
    · exact ptr_no _ _ _
    · exact ptr_no _ _ _
    · exact ((Below.refl _ _).alloc (Nat.le_refl _) _).alloc (by simp) _ |>.alloc (by simp; omega) _
  · go_enter Try.func18, Try.ntmps18
    go_wp2
    refine bodyPost_ret (v := .agg #[.pointer (some ⟨w.heap.size + 2, 0, none⟩), .pointer none, .pointer (some ⟨w.heap.size + 3, 0, none⟩), .int .u64 fl]) (by simp [results, Try.results18, go_sem]) rfl ⟨_, _, _, rfl, ?_, ?_, ?_, ?_⟩
    · exact ptr_yes (by simp [go_sem])
    · exact ptr_no _ _ _
    · exact ptr_yes (by simp [go_sem])
    · exact ((Below.refl _ _).alloc (Nat.le_refl _) _).alloc (by simp) _ |>.alloc (by simp; omega) _ |>.alloc (by simp; omega) _
  · go_enter Try.func18, Try.ntmps18
    go_wp2
    refine bodyPost_ret (v := .agg #[.pointer (some ⟨w.heap.size + 2, 0, none⟩), .pointer (some ⟨w.heap.size + 3, 0, none⟩), .pointer none, .int .u64 fl]) (by simp [results, Try.results18, go_sem]) rfl ⟨_, _, _, rfl, ?_, ?_, ?_, ?_⟩
    · exact ptr_yes (by simp [go_sem])
    · exact ptr_yes (by simp [go_sem])
    · exact ptr_no _ _ _
    · exact ((Below.refl _ _).alloc (Nat.le_refl _) _).alloc (by simp) _ |>.alloc (by simp; omega) _ |>.alloc (by simp; omega) _
  · go_enter Try.func18, Try.ntmps18
    go_wp2
    refine bodyPost_ret (v := .agg #[.pointer (some ⟨w.heap.size + 2, 0, none⟩), .pointer (some ⟨w.heap.size + 3, 0, none⟩), .pointer (some ⟨w.heap.size + 4, 0, none⟩), .int .u64 fl]) (by simp [results, Try.results18, go_sem]) rfl ⟨_, _, _, rfl, ?_, ?_, ?_, ?_⟩
    · exact ptr_yes (by simp [go_sem])
    · exact ptr_yes (by simp [go_sem])
    · exact ptr_yes (by simp [go_sem])
    · exact ((Below.refl _ _).alloc (Nat.le_refl _) _).alloc (by simp) _ |>.alloc (by simp; omega) _ |>.alloc (by simp; omega) _ |>.alloc (by simp; omega) _

/-- The round that an entry names. -/
def rnd (hp : Bool) (rp : Int) (he : Bool) (re : Int) (hc : Bool) (rc : Int) : Int := if hp then rp else if he then re else if hc then rc else 0

/-- It returns v; nothing that was there has turned. -/
def PostV (v : Value) (w : World) (e : Ending) (w' : World) : Prop := e = .returned v ∧ Below w.heap.size w w'

set_option maxHeartbeats 1000000 in
theorem round_any (v0 v1 v2 : Option Addr) (hp : Bool) (rp : Int) (he : Bool) (re : Int) (hc : Bool) (rc fl : Int) (w : World) (h0 : Ptr w v0 hp 1 rp) (h1 : Ptr w v1 he 1 re) (h2 : Ptr w v2 hc 0 rc) :
    Calls Try.prog 20 #[.agg #[.pointer v0, .pointer v1, .pointer v2, .int .u64 fl]] w (PostV (.int .u64 (rnd hp rp he re hc rc)) w) := by
  have hb : ∀ o1 o2 a v, w.cell? a = some v → ((w.alloc o1).alloc o2).cell? a = some v := fun o1 o2 a v h => cell_later (((Below.refl _ _).alloc (Nat.le_refl _) _).alloc (by simp) _) h
  rcases h0 with ⟨rfl, rfl⟩ | ⟨rfl, b0, rfl, c0⟩
  · rcases h1 with ⟨rfl, rfl⟩ | ⟨rfl, b1, rfl, c1⟩
    · rcases h2 with ⟨rfl, rfl⟩ | ⟨rfl, b2, rfl, c2⟩
      · clear hb
        go_enter Try.func20, Try.ntmps20
        go_wp2
        go_ret
        exact ⟨rfl, ((Below.refl _ _).alloc (Nat.le_refl _) _).alloc (by simp) _⟩
      · have k0 := fun o1 o2 => hb o1 o2 _ _ c2
        clear hb
        go_enter Try.func20, Try.ntmps20
        go_wp2
        go_ret
        exact ⟨rfl, ((Below.refl _ _).alloc (Nat.le_refl _) _).alloc (by simp) _⟩
    · have k0 := fun o1 o2 => hb o1 o2 _ _ c1
      clear hb h2
      go_enter Try.func20, Try.ntmps20
      go_wp2
      go_ret
      exact ⟨rfl, ((Below.refl _ _).alloc (Nat.le_refl _) _).alloc (by simp) _⟩
  · have k0 := fun o1 o2 => hb o1 o2 _ _ c0
    clear hb h1 h2
    go_enter Try.func20, Try.ntmps20
    go_wp2
    go_ret
    exact ⟨rfl, ((Below.refl _ _).alloc (Nat.le_refl _) _).alloc (by simp) _⟩
end Go.Proofs.Qxb6001044a
