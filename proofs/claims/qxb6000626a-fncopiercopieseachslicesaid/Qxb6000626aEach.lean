/- The row of 'Rows.FnCopierCopiesEachSliceSaid', after the seat's shells; the walk lies in Qxb6000626aW7. -/
import Derived.Test.Qxb6000626aRows
import Derived.Test.Qxb6000626aW7
import Derived.WalkKit
import Derived.ProofKit
import Derived.OpenShut
import Derived.ShutString
import Derived.ChangeOld
import Derived.Below
import Derived.Deep.Matrix
namespace Go.Proofs.Qxb6000626a.fnCopierCopiesEachSlice
open Go.ChangeShapes Go.WideShapes Go.ChangeAt Go.RowKit
open Go.ChangeMaps (open_string shut_string)
set_option linter.unusedVariables false

theorem own : ownKnob Try.prog.godebug = none := by kernel_rfl
theorem laidOut : laidOutB Try.prog = true := by kernel_rfl

theorem rd_of {w : World} {A : Option Addr} {L C : Nat} {Z : List Int} (hLC : L ≤ C) (hz : Z.length = C) (hA : A = none → C = 0) (hc : ∀ a', A = some a' → 0 ≤ a'.block ∧ ∀ c, c < C → w.cell? (a'.add c) = some (.int .u8 (Z.getD c 0))) : Rd w A L (Z.take L) := by
  refine ⟨by rw [List.length_take]; omega, fun hn => ?_⟩
  cases A with
  | none => have := hA rfl; omega
  | some x =>
    have hc' := (hc x rfl).2
    obtain ⟨b, o, s⟩ := x
    have h0 := World.cell?_spot (hc' 0 (by omega))
    have hs : s = none := by simpa [Addr.add] using h0
    subst hs
    refine ⟨b, o, rfl, fun i hi => ?_⟩
    have := hc' i (by omega)
    rw [Addr.add_lit] at this
    rw [this]
    simp [List.getD, hi]

set_option maxRecDepth 100000 in
theorem lifted (os : Os) (started : os.Started) (H : Type) (enc : TypeId × Value → H) :
    ReturnsInHanded {} Try.checked os 7 .any (Rows.fnCopierCopiesEachSliceSpec.pre6 enc Try.prog Try.f7 Rows.fnCopierCopiesEachSliceRow.domain false) (Rows.fnCopierCopiesEachSliceSpec.post enc Try.prog Try.f7 false true false false) := by
  refine returnsInHanded_of_change (C := Try.checked) own started (by kernel_rfl) Try.func7
    (ChangeSpec.witness6 (enc := enc) (C := Try.checked) false ⟨#[], #[.slice none 0 0], []⟩ 8 (by kernel_rfl) (by kernel_rfl) (by kernel_rfl) (by kernel_rfl)) ?_
  intro W base args ds gs before hval0 hW hcnd _
  have hval : ∀ (j : Nat) t v, Try.f7.params[j]? = some t → args[j]? = some v → Value.okWide Try.prog W .any base t v := hval0
  have hW' := hW
  obtain ⟨p, q, hA0, hV, rfl, hfz, hnd⟩ := hW
  have hA : DataW.TrodAll enc Try.prog W 0 (fun _ => true) true Try.f7.params.toList args.toList ds p := hA0
  rw [Try.params7] at hA hval
  obtain ⟨v0, vs0, d0, ds0, p0, q0, hargs, rfl, rfl, h0, r0⟩ := trodAll_cons hA
  obtain ⟨rfl, rfl, rfl⟩ := trodAll_nil r0
  obtain rfl : args = #[v0] := by cases args; simp_all
  obtain ⟨rfl, rfl⟩ := trodVars_none hV
  obtain ⟨a0, len0, cap0, rfl⟩ := okWide_slice Try.underlying35 (hval 0 35 v0 rfl rfl)
  have k0 := h0
  have lt0 : ∀ x ∈ p0, x.block < W.heap.size := by obtain ⟨m, hm⟩ := k0; exact DataW.trod_lt m _ _ _ hm
  obtain ⟨A, L, C, Z, hT, hnil, hlen⟩ : ∃ A L C Z, Tab W a0 len0 A L C Z ∧ (a0 = none → len0 = 0) ∧ len0 ≤ 9223372036854775807 := by
    obtain ⟨fuel, hf⟩ := h0
    rcases Deep.open_int_rows Try.underlying35 Try.underlying22 Try.underlying5 (by kernel_rfl) (by kernel_rfl) hf with ⟨hcs, _⟩ | ⟨a, l, c, A, L, C, Z, hcs, _, hl, hm, _, hx⟩
    · simp [Value.cells] at hcs
      obtain ⟨rfl, rfl, rfl⟩ := hcs
      exact ⟨fun _ => none, fun _ => 0, fun _ => 0, fun _ => [], ⟨fun h => absurd h (Nat.lt_irrefl 0), fun r hr => absurd hr (Nat.not_lt_zero _), fun r hr => absurd hr (Nat.not_lt_zero _), fun r hr => absurd hr (Nat.not_lt_zero _)⟩, fun _ => rfl, by omega⟩
    · simp [Value.cells] at hcs
      obtain ⟨rfl, rfl, rfl⟩ := hcs
      unfold maxLen at hm
      refine ⟨A, L, C, fun r => (Z r).take (L r), ⟨fun hG => ?_, fun r hr => ?_, fun r hr hn => ?_, fun r hr => ?_⟩, fun h => by simp at h, by omega⟩
      · obtain ⟨b, o, s⟩ := a
        have h0 := World.cell?_spot (hx 0 (by omega)).1
        have hs : s = none := by simpa [Addr.add] using h0
        subst hs
        refine ⟨b, o, rfl, fun r hr => ?_⟩
        have := (hx r (by omega)).1
        rw [Addr.add_lit] at this
        exact this
      · obtain ⟨_, h1, _, h3, _, h5, h6⟩ := hx r (by omega)
        exact rd_of h1 h3 h5 h6
      · obtain ⟨_, h1, _, _, _, h5, _⟩ := hx r (by omega)
        have := h5 hn
        omega
      · obtain ⟨_, h1, h2, _⟩ := hx r (by omega)
        unfold maxLen at h2
        omega
  clear hA0 hval0
  refine (walk_all a0 len0 cap0 A L C Z W hT hnil hlen).mono fun e W' ⟨he, bel⟩ => ?_
  subst he
  exact ⟨_, rfl, _, _, _, [], _, [], hW', trodAll_mk1 (shut_bool Try.underlying4 _), (trodAll_cons_mk (Below.trod laidOut (by kernel_rfl) (of_decide_eq_true (by kernel_rfl)) k0 bel lt0) trodAll_mk0), rfl, bel.frame _, fun h => by cases h⟩

theorem over : Rows.fnCopierCopiesEachSliceRow.holds Try.pinned (OpenSpec.ofChange Rows.fnCopierCopiesEachSliceSpec) :=
  OpenClaim.holds_of_wide 7 Try.f7 rfl rfl rfl rfl rfl rfl rfl ⟨rfl, rfl, rfl, rfl, rfl⟩ rfl rfl rfl rfl rfl (by kernel_rfl) Try.func7 (by kernel_rfl)
    (of_decide_eq_true (by kernel_rfl)) (by unfold Func.isWrapper; first | (rw [if_pos (by decide +kernel)]; kernel_rfl) | (rw [if_neg (by decide +kernel)]; exact ⟨rfl, rfl⟩))
    (fun os started H enc _ => lifted os started H enc)

/-- THE STATEMENT -/
theorem proved : Rows.FnCopierCopiesEachSliceSaid := over
#print axioms proved
end Go.Proofs.Qxb6000626a.fnCopierCopiesEachSlice
