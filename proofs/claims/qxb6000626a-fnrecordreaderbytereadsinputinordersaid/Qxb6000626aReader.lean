import Derived.Test.Qxb6000626aCopy
namespace Go.Proofs.Qxb6000626a
open Go.RowKit

theorem Only.setCell {w : World} (p : Addr) (v : Value) : Only p.block w (w.setCell p v) :=
  ⟨rfl, rfl, rfl, by simp [World.setCell], fun k hk => Below.heap_setCell _ _ _ _ hk⟩
theorem Only.trans {g : Nat} {a b c : World} (h : Only g a b) (k : Only g b c) : Only g a c :=
  ⟨k.os.trans h.os, k.tape.trans h.tape, k.output.trans h.output, k.size.trans h.size, fun i hi => (k.block i hi).trans (h.block i hi)⟩
theorem Only.drew {g : Nat} {a b : World} (h : Only g a b) : Only g a b.drew := ⟨h.os, h.tape, h.output, h.size, h.block⟩

/-- The reader at block R: zs is what is left to read, ok its mark; the bytes lie elsewhere. -/
def RdR (w : World) (R : Nat) (zs : List Int) (ok : Bool) : Prop :=
  ∃ a c, Rdr w R a zs.length c ok ∧ zs.length ≤ c ∧ c ≤ 1048576 ∧
    (0 < zs.length → ∃ b o, b ≠ R ∧ a = some ⟨b, o, none⟩ ∧ ∀ i, i < zs.length → w.cell? ⟨b, o + i, none⟩ = some (.int .u8 (zs.getD i 0)))

theorem Rdr.set0 {w : World} {R : Nat} {a a' : Option Addr} {n c n' c' : Nat} {ok : Bool} (h : Rdr w R a n c ok) : Rdr (w.setCell ⟨R, 0, none⟩ (.slice a' n' c')) R a' n' c' ok := by
  unfold Rdr at h ⊢
  simpa using heap_setCell_same w R 0 _ 43 (.slice a' n' c') h
theorem Rdr.set1 {w : World} {R : Nat} {a : Option Addr} {n c : Nat} {ok ok' : Bool} (h : Rdr w R a n c ok) : Rdr (w.setCell ⟨R, 1, none⟩ (.bool ok')) R a n c ok' := by
  unfold Rdr at h ⊢
  simpa using heap_setCell_same w R 1 _ 43 (.bool ok') h
theorem Rdr.of_only {w w' : World} {R g : Nat} {a : Option Addr} {n c : Nat} {ok : Bool} (h : Rdr w R a n c ok) (ho : Only g w w') (hg : R ≠ g) : Rdr w' R a n c ok := by
  unfold Rdr at h ⊢
  rw [ho.block R hg]; exact h

theorem byte_nil (R : Nat) (ok : Bool) (w : World) (h : RdR w R [] ok) :
    Calls Try.prog 12 #[.pointer (some ⟨R, 0, none⟩)] w fun e w' => e = .returned (.int .u8 0) ∧ RdR w' R [] false ∧ Only R w w' := by
  obtain ⟨a, c, hr, h1, h2, h3⟩ := h
  refine (byte_end R a c ok w hr).mono ?_
  rintro e w' ⟨rfl, rfl⟩
  exact ⟨rfl, ⟨a, c, hr.set1, h1, h2, fun h => by simp at h⟩, Only.setCell ⟨R, 1, none⟩ _⟩

theorem byte_cons (R : Nat) (z : Int) (zs : List Int) (ok : Bool) (w : World) (h : RdR w R (z :: zs) ok) :
    Calls Try.prog 12 #[.pointer (some ⟨R, 0, none⟩)] w fun e w' => e = .returned (.int .u8 z) ∧ RdR w' R zs ok ∧ Only R w w' := by
  obtain ⟨a, c, hr, h1, h2, h3⟩ := h
  obtain ⟨b, o, hb, rfl, hc⟩ := h3 (by simp)
  have hlen : (z :: zs).length = zs.length + 1 := rfl
  refine (byte_more R b o (z :: zs).length c z ok w hr (by simp) h1 h2 (by simpa using hc 0 (by simp))).mono ?_
  rintro e w' ⟨rfl, rfl⟩
  refine ⟨rfl, ⟨_, c - 1, hr.set0, by omega, by omega, fun hz => ?_⟩, Only.setCell ⟨R, 0, none⟩ _⟩
  refine ⟨b, o + 1, hb, by rw [if_neg (by omega)], fun i hi => ?_⟩
  rw [World.cell?_setCell_other _ _ _ _ (fun e => by have := congrArg Addr.block e; simp at this; omega)]
  have := hc (i + 1) (by omega)
  rw [show o + (i + 1) = o + 1 + i from by omega] at this
  simpa using this

theorem ok_any (R : Nat) (zs : List Int) (ok : Bool) (w : World) (h : RdR w R zs ok) :
    Calls Try.prog 13 #[.pointer (some ⟨R, 0, none⟩)] w fun e w' => e = .returned (.bool ok) ∧ w = w' := by
  obtain ⟨a, c, hr, _⟩ := h
  exact reader_ok R a _ c ok w hr

/-- The reader, new over a slice whose bytes lie elsewhere. -/
theorem RdR.new {w : World} {x : Option Addr} {n : Nat} {zs : List Int} {B : Nat} (h : RdF B w x n zs) (hn : n ≤ 1048576) (ok : Bool) : RdR (w.alloc (.cells #[.slice x n n, .bool ok] 43)) w.heap.size zs ok := by
  have hl := h.1
  refine ⟨x, n, ?_, by omega, hn, fun hz => ?_⟩
  · unfold Rdr
    rw [hl]
    exact Deep.blk_alloc_new _ _
  · obtain ⟨b, o, hb, ha, hc⟩ := h.2 (by omega)
    have hlt : b < w.heap.size := World.block_lt_of_cell? _ _ (hc 0 (by omega))
    refine ⟨b, o, by omega, ha, fun i hi => ?_⟩
    exact cell_later ((Below.refl _ _).alloc (Nat.le_refl _) _) (hc i (by omega))

end Go.Proofs.Qxb6000626a
