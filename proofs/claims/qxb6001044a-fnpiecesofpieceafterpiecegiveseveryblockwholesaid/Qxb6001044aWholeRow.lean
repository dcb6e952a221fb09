/- The row of 'Rows.FnPiecesOfPieceAfterPieceGivesEveryBlockWholeSaid', after the seat's shells; the walk lies in Qxb6001044aWhole. -/
import Derived.Test.Qxb6001044aRows
import Derived.Test.Qxb6001044aFacts
import Derived.Test.Qxb6001044aWhole
import Derived.WalkKit
import Derived.ProofKit
import Derived.OpenShut
import Derived.ShutString
import Derived.ChangeOld
import Derived.Below
import Derived.SliceStrings
namespace Go.Proofs.Qxb6001044a.fnPiecesOfPieceAfterPieceGivesEveryBlockWhole
open Go.ChangeShapes Go.WideShapes Go.ChangeAt Go.RowKit
open Go.ChangeMaps (open_string shut_string)
set_option linter.unusedVariables false

theorem own : ownKnob Try.prog.godebug = none := by kernel_rfl
theorem laidOut : laidOutB Try.prog = true := laid_fact

theorem rd16 {w : World} {x : Addr} {len cap : Nat} {zs : List Int} (hl : len ≤ cap) (hz : zs.length = cap) (hc : ∀ i, i < zs.length → w.cell? (x.add i) = some (.int .u16 (zs.getD i 0))) (hw : ∀ n ∈ zs, (Lit.int .u16 n).wf = true) :
    Rd w (some x) len (vU16 fun i => (zs.getD i 0).toNat) ∧ ∀ i, i < len → (zs.getD i 0).toNat ≤ 65535 := by
  have hb : ∀ i, i < len → 0 ≤ zs.getD i 0 ∧ zs.getD i 0 ≤ 65535 := fun i hi => by
    have hm : zs.getD i 0 ∈ zs := by
      rw [List.getD, List.getElem?_eq_getElem (by omega), Option.getD_some]
      exact List.getElem_mem _
    have h := hw _ hm
    have hmin : IntKind.u16.min = 0 := rfl
    have hmax : IntKind.u16.max = 65535 := rfl
    simp only [Lit.wf, Bool.and_eq_true, decide_eq_true_eq, hmin, hmax] at h
    exact h
  refine ⟨fun hn => ?_, fun i hi => by have := hb i hi; omega⟩
  obtain ⟨b, o, s⟩ := x
  have h0 := World.cell?_spot (hc 0 (by omega))
  have hs : s = none := by simpa [Addr.add] using h0
  subst hs
  refine ⟨b, o, rfl, fun i hi => ?_⟩
  have := hc i (by omega)
  rw [Addr.add_lit] at this
  rw [this]
  unfold vU16
  rw [Int.toNat_of_nonneg (hb i hi).1]

theorem rdS {w : World} {x : Addr} {len cap : Nat} {ss : List ByteArray} (hl : len ≤ cap) (hz : ss.length = cap) (hc : ∀ i, i < ss.length → w.cell? (x.add i) = some (.string (ss.getD i ByteArray.empty))) (hw : ∀ s ∈ ss, s.size ≤ maxLen) :
    Rd w (some x) len (str fun i => ss.getD i ByteArray.empty) ∧ ∀ i, i < len → (ss.getD i ByteArray.empty).size ≤ 9223372036854775807 := by
  refine ⟨fun hn => ?_, fun i hi => ?_⟩
  · obtain ⟨b, o, s⟩ := x
    have h0 := World.cell?_spot (hc 0 (by omega))
    have hs : s = none := by simpa [Addr.add] using h0
    subst hs
    refine ⟨b, o, rfl, fun i hi => ?_⟩
    have := hc i (by omega)
    rw [Addr.add_lit] at this
    exact this
  · have hm : ss.getD i ByteArray.empty ∈ ss := by
      rw [List.getD, List.getElem?_eq_getElem (by omega), Option.getD_some]
      exact List.getElem_mem _
    have h := hw _ hm
    unfold maxLen at h
    omega

set_option maxRecDepth 100000 in
theorem lifted (os : Os) (started : os.Started) (H : Type) (enc : TypeId × Value → H) :
    ReturnsInHanded {} Try.checked os 3 .any (Rows.fnPiecesOfPieceAfterPieceGivesEveryBlockWholeSpec.pre6 enc Try.prog Try.f3 Rows.fnPiecesOfPieceAfterPieceGivesEveryBlockWholeRow.domain false) (Rows.fnPiecesOfPieceAfterPieceGivesEveryBlockWholeSpec.post enc Try.prog Try.f3 false true false false) := by
  refine returnsInHanded_of_change (C := Try.checked) own started (by kernel_rfl) Try.func3
    (ChangeSpec.witness6 (enc := enc) (C := Try.checked) false ⟨#[], #[.slice none 0 0, .slice none 0 0, .slice none 0 0, .int .u64 0, .int .u64 0], []⟩ 8 (by kernel_rfl) (by kernel_rfl) (by kernel_rfl) (by kernel_rfl)) ?_
  intro W base args ds gs before hval0 hW hcnd _
  have hval : ∀ (j : Nat) t v, Try.f3.params[j]? = some t → args[j]? = some v → Value.okWide Try.prog W .any base t v := hval0
  have hW' := hW
  obtain ⟨p, q, hA0, hV, rfl, hfz, hnd⟩ := hW
  have hA : DataW.TrodAll enc Try.prog W 0 (fun _ => true) true Try.f3.params.toList args.toList ds p := hA0
  rw [Try.params3] at hA hval
  obtain ⟨v0, vs0, d0, ds0, p0, q0, hargs, rfl, rfl, h0, r0⟩ := trodAll_cons hA
  obtain ⟨v1, vs1, d1, ds1, p1, q1, rfl, rfl, rfl, h1, r1⟩ := trodAll_cons r0
  obtain ⟨v2, vs2, d2, ds2, p2, q2, rfl, rfl, rfl, h2, r2⟩ := trodAll_cons r1
  obtain ⟨v3, vs3, d3, ds3, p3, q3, rfl, rfl, rfl, h3, r3⟩ := trodAll_cons r2
  obtain ⟨v4, vs4, d4, ds4, p4, q4, rfl, rfl, rfl, h4, r4⟩ := trodAll_cons r3
  obtain ⟨rfl, rfl, rfl⟩ := trodAll_nil r4
  obtain rfl : args = #[v0, v1, v2, v3, v4] := by cases args; simp_all
  obtain ⟨rfl, rfl⟩ := trodVars_none hV
  obtain ⟨a0, len0, cap0, rfl⟩ := okWide_slice Try.underlying22 (hval 0 22 v0 rfl rfl)
  have k0 := h0
  have lt0 : ∀ x ∈ p0, x.block < W.heap.size := by obtain ⟨m, hm⟩ := k0; exact DataW.trod_lt m _ _ _ hm
  obtain ⟨z0, w0, b0, n0⟩ : ∃ z, Rd W a0 len0 (vU16 z) ∧ (∀ i, i < len0 → z i ≤ 65535) ∧ (a0 = none → len0 = 0) := by
    obtain ⟨fuel, hf⟩ := h0
    rcases open_ints Try.underlying22 Try.underlying56 (by kernel_rfl) hf with ⟨hcs, _⟩ | ⟨x, l, c, zs, hcs, _, hl, hm, hz, _, hcell, hwz⟩
    · simp [Value.cells] at hcs
      obtain ⟨rfl, rfl, rfl⟩ := hcs
      exact ⟨fun _ => 0, Rd.zero _ _ _, fun i hi => absurd hi (Nat.not_lt_zero _), fun _ => rfl⟩
    · simp [Value.cells] at hcs
      obtain ⟨rfl, rfl, rfl⟩ := hcs
      obtain ⟨ha, hb⟩ := rd16 hl (by simpa using hz) hcell hwz
      exact ⟨_, ha, hb, fun h => by simp at h⟩
  obtain ⟨a1, len1, cap1, rfl⟩ := okWide_slice Try.underlying22 (hval 1 22 v1 rfl rfl)
  have k1 := h1
  have lt1 : ∀ x ∈ p1, x.block < W.heap.size := by obtain ⟨m, hm⟩ := k1; exact DataW.trod_lt m _ _ _ hm
  obtain ⟨z1, w1, b1, n1⟩ : ∃ z, Rd W a1 len1 (vU16 z) ∧ (∀ i, i < len1 → z i ≤ 65535) ∧ (a1 = none → len1 = 0) := by
    obtain ⟨fuel, hf⟩ := h1
    rcases open_ints Try.underlying22 Try.underlying56 (by kernel_rfl) hf with ⟨hcs, _⟩ | ⟨x, l, c, zs, hcs, _, hl, hm, hz, _, hcell, hwz⟩
    · simp [Value.cells] at hcs
      obtain ⟨rfl, rfl, rfl⟩ := hcs
      exact ⟨fun _ => 0, Rd.zero _ _ _, fun i hi => absurd hi (Nat.not_lt_zero _), fun _ => rfl⟩
    · simp [Value.cells] at hcs
      obtain ⟨rfl, rfl, rfl⟩ := hcs
      obtain ⟨ha, hb⟩ := rd16 hl (by simpa using hz) hcell hwz
      exact ⟨_, ha, hb, fun h => by simp at h⟩
  obtain ⟨a2, len2, cap2, rfl⟩ := okWide_slice Try.underlying23 (hval 2 23 v2 rfl rfl)
  have k2 := h2
  have lt2 : ∀ x ∈ p2, x.block < W.heap.size := by obtain ⟨m, hm⟩ := k2; exact DataW.trod_lt m _ _ _ hm
  obtain ⟨s2, w2, b2, n2⟩ : ∃ s, Rd W a2 len2 (str s) ∧ (∀ i, i < len2 → (s i).size ≤ 9223372036854775807) ∧ (a2 = none → len2 = 0) := by
    obtain ⟨fuel, hf⟩ := h2
    rcases open_strings Try.underlying23 Try.underlying9 (by kernel_rfl) hf with ⟨hcs, _⟩ | ⟨x, l, c, ss, hcs, _, hl, hm, hz, _, hcell, hws⟩
    · simp [Value.cells] at hcs
      obtain ⟨rfl, rfl, rfl⟩ := hcs
      exact ⟨fun _ => ByteArray.empty, Rd.zero _ _ _, fun i hi => absurd hi (Nat.not_lt_zero _), fun _ => rfl⟩
    · simp [Value.cells] at hcs
      obtain ⟨rfl, rfl, rfl⟩ := hcs
      obtain ⟨ha, hb⟩ := rdS hl (by simpa using hz) hcell hws
      exact ⟨_, ha, hb, fun h => by simp at h⟩
  obtain ⟨a3, rfl, rfl, rfl, w3⟩ := open_int Try.underlying24 (hval 3 24 v3 rfl rfl) h3
  obtain ⟨a4, rfl, rfl, rfl, w4⟩ := open_int Try.underlying24 (hval 4 24 v4 rfl rfl) h4
  have hpos : 0 ≤ a4 := by
    have h := w4
    have hmin : IntKind.u64.min = 0 := rfl
    simp only [Lit.wf, Bool.and_eq_true, decide_eq_true_eq, hmin] at h
    exact h.1
  have hnat : ((a4.toNat : Nat) : Int) = a4 := Int.toNat_of_nonneg hpos
  clear hA0 hval0
  have hwalk := walk3 a0 a1 a2 len0 cap0 len1 cap1 len2 cap2 z0 z1 s2 a3 a4.toNat W w0 w1 w2 b0 b1 b2 n0 n1 n2
  rw [hnat] at hwalk
  refine hwalk.mono fun e W' ⟨he, bel⟩ => ?_
  subst he
  exact ⟨_, rfl, _, _, _, [], _, [], hW', trodAll_mk1 (shut_bool Try.underlying4 _), (trodAll_cons_mk (Below.trod laidOut (by kernel_rfl) (of_decide_eq_true (by kernel_rfl)) k0 bel lt0) (trodAll_cons_mk (Below.trod laidOut (by kernel_rfl) (of_decide_eq_true (by kernel_rfl)) k1 bel lt1) (trodAll_cons_mk (Below.trod laidOut (by kernel_rfl) (of_decide_eq_true (by kernel_rfl)) k2 bel lt2) (trodAll_cons_mk (shut_int Try.underlying24 w3) (trodAll_cons_mk (shut_int Try.underlying24 w4) trodAll_mk0))))), rfl, bel.frame _, fun h => by cases h⟩

theorem facts : joinedFacts Try.pinned.checked.prog 3 Try.f3 Rows.fnPiecesOfPieceAfterPieceGivesEveryBlockWholeSpec Rows.fnPiecesOfPieceAfterPieceGivesEveryBlockWholeRow = true := by
  have h2 : laidOutB Try.pinned.checked.prog = true := laid_fact
  have h3 : mapsRowed Try.pinned.checked.prog = true := maps_fact
  have h26 : Try.pinned.checked.prog.mayEnter = true := enter_fact
  have h27 : (Rows.fnPiecesOfPieceAfterPieceGivesEveryBlockWholeRow.lifted == Try.pinned.checked.prog.liftsFinal) = true := lifts_fact
  have h28 : (Try.pinned.checked.prog.make == some Rows.fnPiecesOfPieceAfterPieceGivesEveryBlockWholeRow.make) = true := make_fact
  unfold joinedFacts
  rw [h2, h3, h26, h27, h28]
  show (_ : Bool) = true
  kernel_rfl

theorem over : Rows.fnPiecesOfPieceAfterPieceGivesEveryBlockWholeRow.holds Try.pinned (OpenSpec.ofChange Rows.fnPiecesOfPieceAfterPieceGivesEveryBlockWholeSpec) :=
  OpenClaim.holds_of_wide 3 Try.f3 rfl rfl rfl rfl rfl rfl rfl ⟨rfl, rfl, rfl, rfl, rfl⟩ rfl rfl rfl rfl rfl (by kernel_rfl) Try.func3 facts
    (of_decide_eq_true (by kernel_rfl)) (by unfold Func.isWrapper; first | (rw [if_pos (by decide +kernel)]; kernel_rfl) | (rw [if_neg (by decide +kernel)]; exact ⟨rfl, rfl⟩))
    (fun os started H enc _ => lifted os started H enc)

/-- THE STATEMENT -/
theorem proved : Rows.FnPiecesOfPieceAfterPieceGivesEveryBlockWholeSaid := over
#print axioms proved
end Go.Proofs.Qxb6001044a.fnPiecesOfPieceAfterPieceGivesEveryBlockWhole
