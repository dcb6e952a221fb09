import Derived.Test.Qxb6001044aChain
namespace Go.Proofs.Qxb6001044a
open Go.RowKit

/-! ### What piecesOf answers, without Go -/

/-- The bytes that k transactions from a on count. -/
def tsum (x : Nat → Nat) (a : Nat) : Nat → Nat
  | 0 => 0
  | k + 1 => tsum x a k + (x (a + k) + 9)

/-- The bytes that k certificates count. -/
def csum (au : Nat → ByteArray) : Nat → Nat
  | 0 => 0
  | k + 1 => csum au k + ((au k).size + 18)

/-- Where piece j starts in its block. -/
def fst (D : Nat → Blk) (first j : Nat) : Nat := if j = 0 then min first (D 0).tn else 0

/-- The bytes of piece j's certificates. -/
def crt (D : Nat → Blk) (first j : Nat) : Nat := if fst D first j = 0 then csum (D j).au (D j).cn else 0

/-- The bytes of the first j pieces, E j being where piece j ends. -/
def sz (D : Nat → Blk) (first : Nat) (E : Nat → Nat) : Nat → Nat
  | 0 => 0
  | j + 1 => sz D first E j + crt D first j + tsum (D j).xl (fst D first j) (E j - fst D first j)

/-- What holds of the m pieces of an answer. -/
structure Pieces (D : Nat → Blk) (nb first m : Nat) (E : Nat → Nat) : Prop where
  le : m ≤ nb
  pos : 0 < nb → 0 < m
  fe : ∀ j, j < m → fst D first j ≤ E j
  et : ∀ j, j < m → E j ≤ (D j).tn
  full : ∀ j, j + 1 < m → E j = (D j).tn
  small : ∀ j, j < m → sz D first E j < 4194304
  stop : ∀ j, j < m → E j < (D j).tn → 4194304 ≤ sz D first E (j + 1)
  prog : 0 < m → E 0 = fst D first 0 → E 0 = (D 0).tn
  item : ∀ j, j < m → fst D first j < E j → sz D first E j + crt D first j + tsum (D j).xl (fst D first j) (E j - fst D first j - 1) < 4194304 ∨ (j = 0 ∧ E j = fst D first j + 1)
  early : m < nb → 4194304 ≤ sz D first E m

theorem sz_congr {D : Nat → Blk} {first : Nat} {E E' : Nat → Nat} : ∀ {m : Nat}, (∀ j, j < m → E j = E' j) → sz D first E m = sz D first E' m
  | 0, _ => rfl
  | m + 1, h => by rw [sz, sz, sz_congr (fun j hj => h j (Nat.lt_succ_of_lt hj)), h m (Nat.lt_succ_self m)]

theorem fst_le (D : Nat → Blk) (first j : Nat) : fst D first j ≤ (D j).tn := by
  unfold fst
  by_cases e : j = 0
  · subst e; rw [if_pos rfl]; omega
  · rw [if_neg e]; omega

/-- What holds of the r pieces of which each is whole, so that the loop goes on. -/
structure Going (D : Nat → Blk) (nb first r : Nat) (E : Nat → Nat) : Prop where
  le : r ≤ nb
  full : ∀ j, j < r → E j = (D j).tn
  small : ∀ j, j ≤ r → sz D first E j < 4194304
  item : ∀ j, j < r → fst D first j < E j → sz D first E j + crt D first j + tsum (D j).xl (fst D first j) (E j - fst D first j - 1) < 4194304 ∨ (j = 0 ∧ E j = fst D first j + 1)

theorem Going.start (D : Nat → Blk) (nb first : Nat) (E : Nat → Nat) : Going D nb first 0 E :=
  ⟨Nat.zero_le _, fun j hj => absurd hj (Nat.not_lt_zero _), fun j hj => (by
    have hj0 : j = 0 := by omega
    rw [hj0, sz]; decide), fun j hj => absurd hj (Nat.not_lt_zero _)⟩

/-- The loop has come to the chain's end. -/
theorem Going.done {D : Nat → Blk} {nb first : Nat} {E : Nat → Nat} (h : Going D nb first nb E) : Pieces D nb first nb E :=
  ⟨Nat.le_refl _, fun h => h, fun j hj => by rw [h.full j hj]; exact fst_le D first j, fun j hj => Nat.le_of_eq (h.full j hj), fun j hj => h.full j (by omega), fun j hj => h.small j (by omega),
    fun j hj hlt => by have := h.full j hj; omega, fun hm _ => h.full 0 hm, h.item, fun h => absurd h (Nat.lt_irrefl _)⟩

/-- What the round of block r comes to: it ends at e, having counted s. -/
structure Ends (D : Nat → Blk) (first r : Nat) (E : Nat → Nat) (e s : Nat) : Prop where
  fe : fst D first r ≤ e
  et : e ≤ (D r).tn
  size : s = sz D first E r + crt D first r + tsum (D r).xl (fst D first r) (e - fst D first r)
  out : e < (D r).tn → 4194304 ≤ s ∧ ¬ (r = 0 ∧ e = fst D first r)
  item : fst D first r < e → sz D first E r + crt D first r + tsum (D r).xl (fst D first r) (e - fst D first r - 1) < 4194304 ∨ (r = 0 ∧ e = fst D first r + 1)

/-- E, turned at r. -/
def upd (E : Nat → Nat) (r e : Nat) (j : Nat) : Nat := if j = r then e else E j
theorem upd_lt {E : Nat → Nat} {r e j : Nat} (h : j < r) : upd E r e j = E j := if_neg (by omega)
theorem upd_at (E : Nat → Nat) (r e : Nat) : upd E r e r = e := if_pos rfl

theorem sz_upd {D : Nat → Blk} {first : Nat} {E : Nat → Nat} {r e : Nat} {j : Nat} (h : j ≤ r) : sz D first (upd E r e) j = sz D first E j := sz_congr fun i hi => upd_lt (by omega)

theorem Ends.sz {D : Nat → Blk} {first r : Nat} {E : Nat → Nat} {e s : Nat} (h : Ends D first r E e s) : sz D first (upd E r e) (r + 1) = s := by
  show Qxb6001044a.sz D first (upd E r e) r + crt D first r + tsum (D r).xl (fst D first r) (upd E r e r - fst D first r) = s
  rw [sz_upd (Nat.le_refl _), upd_at, h.size]

/-- It goes on. -/
theorem Going.step {D : Nat → Blk} {nb first r : Nat} {E : Nat → Nat} (h : Going D nb first r E) (hr : r < nb) {e s : Nat} (he : Ends D first r E e s) (hf : ¬ e < (D r).tn) (hs : s < 4194304) : Going D nb first (r + 1) (upd E r e) := by
  have het := he.et
  refine ⟨hr, fun j hj => ?_, fun j hj => ?_, fun j hj => ?_⟩
  · by_cases e' : j = r
    · subst e'; rw [upd_at]; omega
    · rw [upd_lt (by omega)]; exact h.full j (by omega)
  · by_cases e' : j = r + 1
    · subst e'; rw [he.sz]; exact hs
    · rw [sz_upd (by omega)]; exact h.small j (by omega)
  · by_cases e' : j = r
    · subst e'; rw [upd_at, sz_upd (Nat.le_refl _)]; exact he.item
    · rw [upd_lt (by omega), sz_upd (by omega)]; exact h.item j (by omega)

/-- It stops here. -/
theorem Going.stop {D : Nat → Blk} {nb first r : Nat} {E : Nat → Nat} (h : Going D nb first r E) (hr : r < nb) {e s : Nat} (he : Ends D first r E e s) (hs : e < (D r).tn ∨ 4194304 ≤ s) : Pieces D nb first (r + 1) (upd E r e) := by
  have hsz := he.sz
  have hs' : 4194304 ≤ s := by
    rcases hs with hs | hs
    · exact (he.out hs).1
    · exact hs
  refine ⟨hr, fun _ => Nat.succ_pos _, fun j hj => ?_, fun j hj => ?_, fun j hj => ?_, fun j hj => ?_, fun j hj hlt => ?_, fun _ h0 => ?_, fun j hj => ?_, fun _ => by rw [hsz]; exact hs'⟩
  · by_cases e' : j = r
    · subst e'; rw [upd_at]; exact he.fe
    · rw [upd_lt (by omega), h.full j (by omega)]; exact fst_le D first j
  · by_cases e' : j = r
    · subst e'; rw [upd_at]; exact he.et
    · rw [upd_lt (by omega), h.full j (by omega)]; exact Nat.le_refl _
  · rw [upd_lt (by omega)]; exact h.full j (by omega)
  · rw [sz_upd (by omega)]; exact h.small j (by omega)
  · by_cases e' : j = r
    · subst e'; rw [hsz]; exact hs'
    · rw [upd_lt (by omega), h.full j (by omega)] at hlt; omega
  · by_cases e' : r = 0
    · subst e'
      rw [upd_at] at h0 ⊢
      have := he.et
      have h1 := he.out
      by_cases hlt : e < (D 0).tn
      · exact absurd ⟨rfl, h0⟩ (h1 hlt).2
      · omega
    · rw [upd_lt (by omega)]; exact h.full 0 (by omega)
  · by_cases e' : j = r
    · subst e'; rw [upd_at, sz_upd (Nat.le_refl _)]; exact he.item
    · rw [upd_lt (by omega), sz_upd (by omega)]; exact h.item j (by omega)
end Go.Proofs.Qxb6001044a
