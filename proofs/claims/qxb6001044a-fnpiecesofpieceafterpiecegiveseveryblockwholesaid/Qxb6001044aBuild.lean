import Derived.Test.Qxb6001044aChain
namespace Go.Proofs.Qxb6001044a
open Go.RowKit

/-- What zzBuildChain comes to. -/
def PostBuild (n1 n2 : Nat) (w : World) (e : Ending) (w' : World) : Prop :=
  ∃ BB D, e = .returned (.slice (some ⟨BB, 0, none⟩) n2 n2) ∧ Chain w' BB 0 n2 D ∧ cnt D n2 ≤ n1 ∧ Below w.heap.size w w'

theorem run_make_buf (M : Nat) (hM : M = 65791) (w : World) :
    (Instr.makeSlice 43 (.int .i64 65791) (.int .i64 65791)).run Try.prog w = .ok (.slice (some ⟨w.heap.size, 0, none⟩) M M) (w.alloc (.cells (madeCells #[.int .u8 0] M) 5)) := by
  have h := run_make_row' (P := Try.prog) 43 5 (.int .u8 0) 1 Try.underlying43 Try.info5 rfl .i64 .i64 M (by omega) (by omega) w
  have e : ((M : Nat) : Int) = 65791 := by omega
  rw [e] at h
  exact h

theorem run_make_blocks (n : Nat) (hn : n ≤ 65536) (w : World) :
    (Instr.makeSlice 29 (.int .i64 0) (.int .i64 (n : Int))).run Try.prog w = .ok (.slice (some ⟨w.heap.size, 0, none⟩) 0 n) (w.alloc (.cells (madeCells #[.int .u64 0, .slice none 0 0, .slice none 0 0] (n * 3)) 38)) := by
  obtain ⟨i0, hi, hz0, hz1, hz2⟩ := info_parts Try.info38
  have h := run_make (P := Try.prog) w 29 38 i0 _ Try.underlying29 hi hz0 .i64 .i64 0 (n : Int) (Int.le_refl _) (by omega) (by rw [hz2]; omega) (by omega)
  simp only [Int.toNat_natCast, hz1] at h
  exact h

/-- Transaction q + j, as zzBuildChain cuts it out of the buffer at block N. -/
def txv (N M : Nat) (z1 : Nat → Nat) (q j : Nat) : Value := .slice (some ⟨N, (q + j) % 256, none⟩) (z1 (q + j)) (M - (q + j) % 256)

theorem own_rdx {w : World} {base X : Nat} {v : Value} {n : Nat} {V : Nat → Value} (h : w.ownsRow base 43 1 v n ((List.range n).map V)) (hX : X < base) :
    ∃ ta tc, v = .slice ta n tc ∧ RdX X w ta n V ∧ n ≤ tc ∧ tc ≤ 9223372036854775807 ∧ (ta = none → tc = 0) := by
  rcases h.2 with ⟨rfl, rfl⟩ | ⟨g, cap, cur, rfl, hb, hg, hnc, hcm, hcs, htake⟩
  · exact ⟨none, 0, rfl, fun h => absurd h (Nat.lt_irrefl 0), Nat.le_refl _, Nat.zero_le _, fun _ => rfl⟩
  · refine ⟨_, cap, rfl, fun _ => ⟨g, 0, by omega, rfl, fun i hi => ?_⟩, hnc, by unfold maxLen at hcm; omega, fun h => by simp at h⟩
    rw [Nat.zero_add, h.cellAt i (by omega)]
    simp [hi]

/-- The three cells of a block that is appended. -/
def blkCell (rd : Int) (t c : Value) (j : Nat) : Value := if j = 0 then .int .u64 rd else if j = 1 then t else c

theorem blk_src {w : World} {rd : Int} {t c : Value} (j : Nat) (hj : j < 1 * 3) : (w.alloc (.cells #[.int .u64 rd, t, c] 38)).cell? ⟨w.heap.size, 0 + j, none⟩ = some (blkCell rd t c j) := by
  rw [World.cell?_alloc_new]
  match j, hj with
  | 0, _ => rfl
  | 1, _ => rfl
  | 2, _ => rfl

/-- What the round has laid, as a block. -/
def newBlk (N M : Nat) (z1 : Nat → Nat) (q r : Nat) (ta : Option Addr) (tn tc : Nat) (ca : Option Addr) (cn cc : Nat) (a : ByteArray) : Blk :=
  ⟨r, ta, tn, tc, fun j => some ⟨N, (q + j) % 256, none⟩, fun j => z1 (q + j), fun j => M - (q + j) % 256, ca, cn, cc, fun _ => a, fun _ => r⟩

theorem one_slots {wr w1 : World} {X r : Nat} {a : ByteArray} {o : Obj} (hX : X < wr.heap.size) (hb : Bar X ((wr.alloc (.cells #[.string a, .int .u64 r] 45)).alloc o) w1) : RdSlotsX X w1 (some ⟨wr.heap.size, 0, none⟩) 1 (fun _ => a) (fun _ => r) := fun _ => by
  refine ⟨wr.heap.size, 0, by omega, rfl, fun i hi => ?_⟩
  obtain rfl : i = 0 := by omega
  have h0 : ((wr.alloc (.cells #[.string a, .int .u64 r] 45)).alloc o).heap[wr.heap.size]? = some (.cells #[.string a, .int .u64 r] 45) := by
    rw [Deep.blk_alloc_lt _ _ _ (by simp), Deep.blk_alloc_new]
  refine ⟨hb.cell (by show wr.heap.size ≠ X; omega) ?_, hb.cell (by show wr.heap.size ≠ X; omega) ?_⟩ <;> simp [World.cell?, h0]

theorem blk_list (rd : Int) (t c : Value) (j : Nat) (hj : j < 3) : [Value.int IntKind.u64 rd, t, c][j]? = some (blkCell rd t c j) := by
  match j, hj with
  | 0, _ => rfl
  | 1, _ => rfl
  | 2, _ => rfl

theorem blk_one (rd : Int) (a b : Option Addr) (n c n' c' : Nat) (j : Nat) : (blkCell rd (.slice a n c) (.slice b n' c') j).oneCell' = true := by
  unfold blkCell
  split
  · rfl
  · split <;> rfl

theorem build_step {wo w0 w1 : World} {N M n1 n2 : Nat} {z : Nat → Int} {z1 : Nat → Nat} {r q tn tc cn cc : Nat} {D : Nat → Blk} {f : Nat → Value} {ta ca : Option Addr} {a : ByteArray}
    (hBu : Built wo (N + 1) n2 r D f) (h0 : Below wo.heap.size wo w0) (hbar : Bar (N + 1) w0 w1) (hrow : w1.rowIs (N + 1) 38 (n2 * 3) (fun j => if r * 3 ≤ j ∧ j < r * 3 + 3 then blkCell r (.slice ta tn tc) (.slice ca cn cc) (j - r * 3) else f j))
    (hbuf : wo.rowIs N 5 M (vU8 z)) (hM : 65791 ≤ M) (hz1 : ∀ i, i < n1 → z1 i ≤ 65535) (hq : q + tn ≤ n1) (htn : tn ≤ 65535)
    (hta : RdX (N + 1) w1 ta tn (txv N M z1 q)) (htc : tn ≤ tc) (htm : tc ≤ 9223372036854775807) (htnil : ta = none → tc = 0) (hcn : cn ≤ 1) (hcnil : ca = none → cn = 0) (ha : 0 < cn → a.size ≤ 1048576)
    (hca : RdSlotsX (N + 1) w1 ca cn (fun _ => a) (fun _ => r)) :
    Built w1 (N + 1) n2 (r + 1) (fun i => if i = r then newBlk N M z1 q r ta tn tc ca cn cc a else D i) (fun j => if r * 3 ≤ j ∧ j < r * 3 + 3 then blkCell r (.slice ta tn tc) (.slice ca cn cc) (j - r * 3) else f j) := by
  have hb1 : Bar (N + 1) wo w1 := (Bar.of_below h0).trans hbar
  refine hBu.step hb1 hrow (fun j hj => if_neg (by omega)) ?_ ?_ ?_ hta (fun t ht => ⟨fun i => z ((q + t) % 256 + i), fun _ => ⟨N, (q + t) % 256, by omega, rfl, fun i hi => ?_⟩⟩) hca
    ⟨htc, htm, htnil, Nat.le_trans htn (by omega), fun t ht => hz1 _ (Nat.lt_of_lt_of_le (Nat.add_lt_add_left ht q) hq), hcn, fun c hc => ha (Nat.lt_of_le_of_lt (Nat.zero_le _) hc), hcnil⟩
  · show (if r * 3 ≤ r * 3 ∧ r * 3 < r * 3 + 3 then blkCell r (.slice ta tn tc) (.slice ca cn cc) (r * 3 - r * 3) else f (r * 3)) = .int .u64 (r : Int)
    rw [if_pos ⟨by omega, by omega⟩, Nat.sub_self]; rfl
  · show (if r * 3 ≤ r * 3 + 1 ∧ r * 3 + 1 < r * 3 + 3 then blkCell r (.slice ta tn tc) (.slice ca cn cc) (r * 3 + 1 - r * 3) else f (r * 3 + 1)) = .slice ta tn tc
    rw [if_pos ⟨by omega, by omega⟩, Nat.add_sub_cancel_left]; rfl
  · show (if r * 3 ≤ r * 3 + 2 ∧ r * 3 + 2 < r * 3 + 3 then blkCell r (.slice ta tn tc) (.slice ca cn cc) (r * 3 + 2 - r * 3) else f (r * 3 + 2)) = .slice ca cn cc
    rw [if_pos ⟨by omega, by omega⟩, Nat.add_sub_cancel_left]; rfl
  · have hz : z1 (q + t) ≤ 65535 := hz1 _ (Nat.lt_of_lt_of_le (Nat.add_lt_add_left ht q) hq)
    have hi' : i < z1 (q + t) := hi
    have : (q + t) % 256 < 256 := Nat.mod_lt _ (by omega)
    exact hb1.cell (by show N ≠ N + 1; omega) (hbuf.cell (by omega))

set_option maxHeartbeats 4000000 in
set_option maxRecDepth 100000 in
theorem build_any (a1 a2 a3 : Option Addr) (n1 c1 n2 c2 n3 c3 : Nat) (z1 z2 : Nat → Nat) (s : Nat → ByteArray) (w : World) (h1 : Rd w a1 n1 (vU16 z1)) (h2 : Rd w a2 n2 (vU16 z2)) (h3 : Rd w a3 n3 (str s))
    (hn1 : n1 ≤ 65536) (hn2 : n2 ≤ 65536) (hn3 : n3 ≤ 65536) (hz1 : ∀ i, i < n1 → z1 i ≤ 65535) (hz2 : ∀ i, i < n2 → z2 i ≤ 65535) (hs : ∀ i, i < n3 → (s i).size ≤ 1048576) :
    Calls Try.prog 12 #[.slice a1 n1 c1, .slice a2 n2 c2, .slice a3 n3 c3] w (PostBuild n1 n2 w) := by
  have HZ1 : Hid (∀ i, i < n1 → z1 i ≤ 65535) := hz1
  have HZ2 : Hid (∀ i, i < n2 → z2 i ≤ 65535) := hz2
  have HS : Hid (∀ i, i < n3 → (s i).size ≤ 1048576) := hs
  clear hz1 hz2 hs
  obtain ⟨M, hM⟩ : ∃ M : Nat, M = 65791 := ⟨_, rfl⟩
  have hmk := run_make_buf M hM
  have hmk2 := run_make_blocks n2 hn2
  obtain ⟨i0, hi, hz0, hy1, hy2⟩ := info_parts Try.info43
  obtain ⟨i1, hi1, _, hx1, _⟩ := info_parts Try.info38
  have hM1 : M ≤ 65791 := by omega
  have hM2 : 65791 ≤ M := by omega
  clear hM
  go_enter Try.func12, Try.ntmps12
  go_wp2
  clear hmk
  go_loopg [8] M (fun g i wr => ∃ k : Nat, ∃ z : Nat → Int, k ≤ M ∧ g = M - k ∧ i = .int .i64 k ∧ wr.rowIs w.heap.size 5 M (vU8 z) ∧ Below w.heap.size w wr ∧ wr.heap.size = w.heap.size + 1)
  case atStart => exact ⟨0, fun _ => 0, Nat.zero_le _, rfl, rfl, World.rowIs_made w _ M 5, (Below.refl _ _).alloc (Nat.le_refl _) _, by simp⟩
  case round =>
    obtain ⟨k, z, hk, rfl, rfl, hrow, hB, hsz⟩ := hrel
    by_cases hlt : k < M
    · have hkz : (k : Int) < (M : Int) := by omega
      have g1 : wr.cell? ⟨w.heap.size, k, none⟩ = some (.int .u8 (z k)) := hrow.cell hlt
      have g2 : wr.frozen? ⟨w.heap.size, k, none⟩ = false := hrow.frozen k
      go_wp2
      go_roundg (M - (k + 1))
      case measure => go_light; omega
      case rel =>
        go_light
        refine ⟨k + 1, _, by omega, rfl, by simp, (hrow.set k _).congr (g := vU8 (fun j => if j = k then (k : Int) % 256 else z j)) (fun j _ => ?_), hB.setCell (Nat.le_refl _) _, by simp [hsz]⟩
        unfold vU8
        by_cases e : j = k
        · simp only [if_pos e]
        · simp only [if_neg e]
    · have hkz : ¬ ((k : Int) < (M : Int)) := by omega
      clear hk hlt
      go_wp2
      clear hmk2 hkz
      have hD0 : Blk := ⟨0, none, 0, 0, fun _ => none, fun _ => 0, fun _ => 0, none, 0, 0, fun _ => ByteArray.empty, fun _ => 0⟩
      have hst : ∃ f, Built (wr.alloc (.cells (madeCells #[.int .u64 0, .slice none 0 0, .slice none 0 0] (n2 * 3)) 38)) (w.heap.size + 1) n2 0 (fun _ => hD0) f := by
        have h := World.rowIs_alloc wr (madeCells #[.int .u64 0, .slice none 0 0, .slice none 0 0] (n2 * 3)) 38 (fun i => (madeCells #[.int .u64 0, .slice none 0 0, .slice none 0 0] (n2 * 3))[i]?.getD (.bool false)) (fun i hi => by simp [Array.getElem?_eq_getElem hi])
        rw [size_madeCells, hsz] at h
        exact ⟨_, h, fun i hi => absurd hi (Nat.not_lt_zero _), fun i hi => absurd hi (Nat.not_lt_zero _), fun i hi => absurd hi (Nat.not_lt_zero _), fun i hi => absurd hi (Nat.not_lt_zero _), fun i hi => absurd hi (Nat.not_lt_zero _), fun i hi => absurd hi (Nat.not_lt_zero _), fun i hi => absurd hi (Nat.not_lt_zero _)⟩
      obtain ⟨f0, hf0⟩ := hst
      have hrow2 : (wr.alloc (.cells (madeCells #[.int .u64 0, .slice none 0 0, .slice none 0 0] (n2 * 3)) 38)).rowIs w.heap.size 5 M (vU8 z) := hrow.alloc _
      have hB2 : Below w.heap.size w (wr.alloc (.cells (madeCells #[.int .u64 0, .slice none 0 0, .slice none 0 0] (n2 * 3)) 38)) := hB.alloc (by omega) _
      have hsz2 : w.heap.size + 2 ≤ (wr.alloc (.cells (madeCells #[.int .u64 0, .slice none 0 0, .slice none 0 0] (n2 * 3)) 38)).heap.size := by simp [hsz]
      generalize hW : wr.alloc (.cells (madeCells #[.int .u64 0, .slice none 0 0, .slice none 0 0] (n2 * 3)) 38) = W0 at hf0 hrow2 hB2 hsz2 ⊢
      clear hW hrow hB hsz
      go_loopg [9, 10, 11] n2 (fun g bl kk bb wx => ∃ (r q : Nat) (D : Nat → Blk) (f : Nat → Value), r ≤ n2 ∧ g = n2 - r ∧ bl = .slice (some ⟨w.heap.size + 1, 0, none⟩) r n2 ∧ kk = .int .i64 q ∧ bb = .int .i64 r ∧ Built wx (w.heap.size + 1) n2 r D f ∧ cnt D r = q ∧ q ≤ n1 ∧ wx.rowIs w.heap.size 5 M (vU8 z) ∧ Below w.heap.size w wx ∧ w.heap.size + 2 ≤ wx.heap.size)
      case atStart => exact ⟨0, 0, _, _, Nat.zero_le _, rfl, rfl, rfl, rfl, hf0, rfl, Nat.zero_le _, hrow2, hB2, hsz2⟩
      case round =>
        clear hf0 hrow2 hB2 hsz2 f0 hD0
        obtain ⟨r, q, D, f, hr, rfl, rfl, rfl, rfl, hBu, hcnt, hq, hbuf, hB, hsz⟩ := hrel
        have HC : Hid (cnt D r = q) := hcnt
        clear hcnt
        by_cases hlt : r < n2
        · have hrz : (r : Int) < (n2 : Int) := by omega
          obtain ⟨b2, o2, rfl, hc2⟩ := h2 (by omega)
          have g2 : wr.cell? ⟨b2, o2 + r, none⟩ = some (.int .u16 (z2 r : Int)) := cell_later hB (hc2 r hlt)
          have hz2r := HZ2.out r hlt
          clear hc2 h2
          by_cases hbig : (n1 : Int) - (q : Int) < (z2 r : Int)
          · obtain ⟨tn, htn⟩ : ∃ tn : Nat, (n1 : Int) - (q : Int) = (tn : Int) := ⟨n1 - q, by omega⟩
            have HT : Hid ((n1 : Int) - (q : Int) = (tn : Int)) := htn
            have htn1 : tn ≤ 65535 := by omega
            have htn2 : q + tn ≤ n1 := by omega
            clear htn
            go_wp2
            rw [HT.out]
            clear hbig
            obtain ⟨wo, rfl⟩ : ∃ x, x = wr := ⟨wr, rfl⟩
            go_loopg [10, 13, 14] tn (fun g kk tv tt wy => ∃ t : Nat, t ≤ tn ∧ g = tn - t ∧ kk = .int .i64 ((q + t : Nat) : Int) ∧ tt = .int .i64 t ∧ wy.ownsRow wo.heap.size 43 1 tv t ((List.range t).map (txv w.heap.size M z1 q)) ∧ Below wo.heap.size wo wy)
            case atStart => exact ⟨0, Nat.zero_le _, rfl, rfl, rfl, World.ownsRow_nil _ _ _ _, Below.refl _ _⟩
            case round =>
              obtain ⟨t, ht, rfl, rfl, rfl, hown, hBo⟩ := hrel
              by_cases htlt : t < tn
              · have htz : (t : Int) < (tn : Int) := by omega
                obtain ⟨b1, o1, rfl, hc1⟩ := h1 (by omega)
                have g1 : wr.cell? ⟨b1, o1 + (q + t), none⟩ = some (.int .u16 (z1 (q + t) : Int)) := cell_later hBo (cell_later hB (hc1 (q + t) (by omega)))
                have hz1t := HZ1.out (q + t) (by omega)
                have hqn : ((q + t : Nat) : Int) < (n1 : Int) := by omega
                clear hc1 h1
                generalize hqt : q + t = Q at g1 hz1t hqn ⊢
                have HQ : Hid (q + t = Q) := hqt
                clear hqt
                go_wp2_with (at_builtin; refine wpList_append_own _ rfl (.tmp 60) (.tmp 71) 35 rfl wo.heap.size 43 i0 (.slice none 0 0) 1 24 Try.underlying35 hi hz0 hy1 hy2 rfl (by decide) _ _ _ rfl (hown.alloc _) ⟨wr.heap.size, 0, none⟩ 1 1 [.slice (some ⟨w.heap.size, Q % 256, none⟩) (z1 Q) (M - Q % 256)] rfl ?c0 ?c1 ?c2 ?c3 ?c4 ?c5 ?_)
                case c0 => rfl
                case c1 => exact cell_one_new _ _ _
                case c2 => intro u hu; simp at hu; subst hu; rfl
                case c3 => unfold maxLen; omega
                case c4 => omega
                case c5 => have := hBo.size; simp; omega
                intro v' w1 hown' hgrow _
                have hsz1 := hBo.size
                have hB1 : Below wo.heap.size wo w1 := (hBo.alloc hsz1 _).grown hgrow (by simp; omega) (fun k hk => (hown.lt k hk).1)
                clear hgrow hown
                go_wp2
                go_roundg (tn - (t + 1))
                case measure => go_light; omega
                case rel =>
                  go_light
                  refine ⟨t + 1, by omega, rfl, ?_, by simp, ?_, hB1⟩
                  · have := HQ.out; congr 1; omega
                  · have e : (List.range (t + 1)).map (txv w.heap.size M z1 q) = (List.range t).map (txv w.heap.size M z1 q) ++ [.slice (some ⟨w.heap.size, Q % 256, none⟩) (z1 Q) (M - Q % 256)] := by
                      rw [List.range_succ, List.map_append, List.map_cons, List.map_nil, txv, HQ.out]
                    rw [e]; exact hown'
              · have htz : ¬ ((t : Int) < (tn : Int)) := by omega
                obtain rfl : t = tn := by omega
                obtain ⟨ta, tc, htv, hta, htc, htm, htnil⟩ := own_rdx (X := w.heap.size + 1) hown (by omega)
                have HTN : Hid (ta = none → tc = 0) := htnil
                have hszo := hBo.size
                have hBBrow := hBu.row.of_block (hBo.block (w.heap.size + 1) (by omega))
                rw [htv]
                clear htv hown htnil htlt ht
                by_cases hcert : (r : Int) < (n3 : Int)
                · obtain ⟨b3, o3, rfl, hc3⟩ := h3 (by omega)
                  have g3 : wr.cell? ⟨b3, o3 + r, none⟩ = some (.string (s r)) := cell_later hBo (cell_later hB (hc3 r (by omega)))
                  have hsr := HS.out r (by omega)
                  clear hc3 h3
                  go_wp2_with (at_builtin; refine wpList_append_rowN rfl (.tmp 87) (.tmp 93) 29 rfl 38 i1 3 Try.underlying29 hi1 hx1 (w.heap.size + 1) r n2 f ?d1 rfl (wr.heap.size + 1) 0 1 1 rfl (blkCell r (.slice ta t tc) (.slice (some ⟨wr.heap.size, 0, none⟩) 1 1)) ?d2 ?d3 ?d4 ?_)
                  case d1 => exact (hBBrow.alloc _).alloc _
                  case d2 => exact fun j hj => blk_list _ _ _ j hj
                  case d3 => exact fun j _ => blk_one _ _ _ _ _ _ _ j
                  case d4 => omega
                  intro w1 hbar hs1 hrow1
                  have hal : Below wr.heap.size wr ((wr.alloc (.cells #[.string (s r), .int .u64 r] 45)).alloc (.cells #[.int .u64 r, .slice ta t tc, .slice (some ⟨wr.heap.size, 0, none⟩) 1 1] 38)) := ((Below.refl _ _).alloc (Nat.le_refl _) _).alloc (by simp) _
                  have h0 := hBo.trans (hal.mono hszo)
                  have HF : Hid (Built w1 (w.heap.size + 1) n2 (r + 1) (fun i => if i = r then newBlk w.heap.size M z1 q r ta t tc (some ⟨wr.heap.size, 0, none⟩) 1 1 (s r) else D i) (fun j => if r * 3 ≤ j ∧ j < r * 3 + 3 then blkCell r (.slice ta t tc) (.slice (some ⟨wr.heap.size, 0, none⟩) 1 1) (j - r * 3) else f j)) :=
                    build_step hBu h0 hbar hrow1 hbuf hM2 HZ1.out htn2 htn1 ((hta.bar (Bar.of_below hal)).bar hbar) htc htm HTN.out (Nat.le_refl _) (fun h => by simp at h) (fun _ => hsr) (one_slots (by omega) hbar)
                  have hbufN := (hbuf.of_block (h0.block w.heap.size (by omega))).of_block (hbar.block w.heap.size (by simp; omega) (by omega))
                  have hBN : Below w.heap.size w w1 := (hB.trans (h0.mono (by omega))).trans (hbar.below (by omega) (by simp; omega))
                  have hszN : w.heap.size + 2 ≤ w1.heap.size := by omega
                  clear hbar hrow1 hal h0 hBu hbuf hta htc htm hBBrow
                  go_wp2
                  go_roundg (n2 - (r + 1))
                  case measure => go_light; omega
                  case rel => go_light; exact ⟨r + 1, q + t, _, _, by omega, rfl, rfl, rfl, by simp, HF.out, by rw [cnt_step, HC.out]; rfl, htn2, hbufN, hBN, hszN⟩
                · go_wp2_with (at_builtin; refine wpList_append_rowN rfl (.tmp 87) (.tmp 93) 29 rfl 38 i1 3 Try.underlying29 hi1 hx1 (w.heap.size + 1) r n2 f ?e1 rfl wr.heap.size 0 1 1 rfl (blkCell r (.slice ta t tc) (.slice none 0 0)) ?e2 ?e3 ?e4 ?_)
                  case e1 => exact hBBrow.alloc _
                  case e2 => exact fun j hj => blk_list _ _ _ j hj
                  case e3 => exact fun j _ => blk_one _ _ _ _ _ _ _ j
                  case e4 => omega
                  intro w1 hbar hs1 hrow1
                  have hal : Below wr.heap.size wr (wr.alloc (.cells #[.int .u64 r, .slice ta t tc, .slice none 0 0] 38)) := (Below.refl _ _).alloc (Nat.le_refl _) _
                  have h0 := hBo.trans (hal.mono hszo)
                  have HF : Hid (Built w1 (w.heap.size + 1) n2 (r + 1) (fun i => if i = r then newBlk w.heap.size M z1 q r ta t tc none 0 0 ByteArray.empty else D i) (fun j => if r * 3 ≤ j ∧ j < r * 3 + 3 then blkCell r (.slice ta t tc) (.slice none 0 0) (j - r * 3) else f j)) :=
                    build_step hBu h0 hbar hrow1 hbuf hM2 HZ1.out htn2 htn1 ((hta.bar (Bar.of_below hal)).bar hbar) htc htm HTN.out (by omega) (fun _ => rfl) (fun h => absurd h (Nat.lt_irrefl 0)) (fun h => absurd h (Nat.lt_irrefl 0))
                  have hbufN := (hbuf.of_block (h0.block w.heap.size (by omega))).of_block (hbar.block w.heap.size (by simp; omega) (by omega))
                  have hBN : Below w.heap.size w w1 := (hB.trans (h0.mono (by omega))).trans (hbar.below (by omega) (by simp; omega))
                  have hszN : w.heap.size + 2 ≤ w1.heap.size := by omega
                  clear hbar hrow1 hal h0 hBu hbuf hta htc htm hBBrow
                  go_wp2
                  go_roundg (n2 - (r + 1))
                  case measure => go_light; omega
                  case rel => go_light; exact ⟨r + 1, q + t, _, _, by omega, rfl, rfl, rfl, by simp, HF.out, by rw [cnt_step, HC.out]; rfl, htn2, hbufN, hBN, hszN⟩
          · obtain ⟨tn, htn⟩ : ∃ tn, z2 r = tn := ⟨_, rfl⟩
            have HT : Hid (z2 r = tn) := htn
            have htn1 : tn ≤ 65535 := by omega
            have htn2 : q + tn ≤ n1 := by omega
            clear htn
            go_wp2
            rw [HT.out]
            clear hbig
            obtain ⟨wo, rfl⟩ : ∃ x, x = wr := ⟨wr, rfl⟩
            go_loopg [10, 13, 14] tn (fun g kk tv tt wy => ∃ t : Nat, t ≤ tn ∧ g = tn - t ∧ kk = .int .i64 ((q + t : Nat) : Int) ∧ tt = .int .i64 t ∧ wy.ownsRow wo.heap.size 43 1 tv t ((List.range t).map (txv w.heap.size M z1 q)) ∧ Below wo.heap.size wo wy)
            case atStart => exact ⟨0, Nat.zero_le _, rfl, rfl, rfl, World.ownsRow_nil _ _ _ _, Below.refl _ _⟩
            case round =>
              obtain ⟨t, ht, rfl, rfl, rfl, hown, hBo⟩ := hrel
              by_cases htlt : t < tn
              · have htz : (t : Int) < (tn : Int) := by omega
                obtain ⟨b1, o1, rfl, hc1⟩ := h1 (by omega)
                have g1 : wr.cell? ⟨b1, o1 + (q + t), none⟩ = some (.int .u16 (z1 (q + t) : Int)) := cell_later hBo (cell_later hB (hc1 (q + t) (by omega)))
                have hz1t := HZ1.out (q + t) (by omega)
                have hqn : ((q + t : Nat) : Int) < (n1 : Int) := by omega
                clear hc1 h1
                generalize hqt : q + t = Q at g1 hz1t hqn ⊢
                have HQ : Hid (q + t = Q) := hqt
                clear hqt
                go_wp2_with (at_builtin; refine wpList_append_own _ rfl (.tmp 60) (.tmp 71) 35 rfl wo.heap.size 43 i0 (.slice none 0 0) 1 24 Try.underlying35 hi hz0 hy1 hy2 rfl (by decide) _ _ _ rfl (hown.alloc _) ⟨wr.heap.size, 0, none⟩ 1 1 [.slice (some ⟨w.heap.size, Q % 256, none⟩) (z1 Q) (M - Q % 256)] rfl ?c0 ?c1 ?c2 ?c3 ?c4 ?c5 ?_)
                case c0 => rfl
                case c1 => exact cell_one_new _ _ _
                case c2 => intro u hu; simp at hu; subst hu; rfl
                case c3 => unfold maxLen; omega
                case c4 => omega
                case c5 => have := hBo.size; simp; omega
                intro v' w1 hown' hgrow _
                have hsz1 := hBo.size
                have hB1 : Below wo.heap.size wo w1 := (hBo.alloc hsz1 _).grown hgrow (by simp; omega) (fun k hk => (hown.lt k hk).1)
                clear hgrow hown
                go_wp2
                go_roundg (tn - (t + 1))
                case measure => go_light; omega
                case rel =>
                  go_light
                  refine ⟨t + 1, by omega, rfl, ?_, by simp, ?_, hB1⟩
                  · have := HQ.out; congr 1; omega
                  · have e : (List.range (t + 1)).map (txv w.heap.size M z1 q) = (List.range t).map (txv w.heap.size M z1 q) ++ [.slice (some ⟨w.heap.size, Q % 256, none⟩) (z1 Q) (M - Q % 256)] := by
                      rw [List.range_succ, List.map_append, List.map_cons, List.map_nil, txv, HQ.out]
                    rw [e]; exact hown'
              · have htz : ¬ ((t : Int) < (tn : Int)) := by omega
                obtain rfl : t = tn := by omega
                obtain ⟨ta, tc, htv, hta, htc, htm, htnil⟩ := own_rdx (X := w.heap.size + 1) hown (by omega)
                have HTN : Hid (ta = none → tc = 0) := htnil
                have hszo := hBo.size
                have hBBrow := hBu.row.of_block (hBo.block (w.heap.size + 1) (by omega))
                rw [htv]
                clear htv hown htnil htlt ht
                by_cases hcert : (r : Int) < (n3 : Int)
                · obtain ⟨b3, o3, rfl, hc3⟩ := h3 (by omega)
                  have g3 : wr.cell? ⟨b3, o3 + r, none⟩ = some (.string (s r)) := cell_later hBo (cell_later hB (hc3 r (by omega)))
                  have hsr := HS.out r (by omega)
                  clear hc3 h3
                  go_wp2_with (at_builtin; refine wpList_append_rowN rfl (.tmp 87) (.tmp 93) 29 rfl 38 i1 3 Try.underlying29 hi1 hx1 (w.heap.size + 1) r n2 f ?d1 rfl (wr.heap.size + 1) 0 1 1 rfl (blkCell r (.slice ta t tc) (.slice (some ⟨wr.heap.size, 0, none⟩) 1 1)) ?d2 ?d3 ?d4 ?_)
                  case d1 => exact (hBBrow.alloc _).alloc _
                  case d2 => exact fun j hj => blk_list _ _ _ j hj
                  case d3 => exact fun j _ => blk_one _ _ _ _ _ _ _ j
                  case d4 => omega
                  intro w1 hbar hs1 hrow1
                  have hal : Below wr.heap.size wr ((wr.alloc (.cells #[.string (s r), .int .u64 r] 45)).alloc (.cells #[.int .u64 r, .slice ta t tc, .slice (some ⟨wr.heap.size, 0, none⟩) 1 1] 38)) := ((Below.refl _ _).alloc (Nat.le_refl _) _).alloc (by simp) _
                  have h0 := hBo.trans (hal.mono hszo)
                  have HF : Hid (Built w1 (w.heap.size + 1) n2 (r + 1) (fun i => if i = r then newBlk w.heap.size M z1 q r ta t tc (some ⟨wr.heap.size, 0, none⟩) 1 1 (s r) else D i) (fun j => if r * 3 ≤ j ∧ j < r * 3 + 3 then blkCell r (.slice ta t tc) (.slice (some ⟨wr.heap.size, 0, none⟩) 1 1) (j - r * 3) else f j)) :=
                    build_step hBu h0 hbar hrow1 hbuf hM2 HZ1.out htn2 htn1 ((hta.bar (Bar.of_below hal)).bar hbar) htc htm HTN.out (Nat.le_refl _) (fun h => by simp at h) (fun _ => hsr) (one_slots (by omega) hbar)
                  have hbufN := (hbuf.of_block (h0.block w.heap.size (by omega))).of_block (hbar.block w.heap.size (by simp; omega) (by omega))
                  have hBN : Below w.heap.size w w1 := (hB.trans (h0.mono (by omega))).trans (hbar.below (by omega) (by simp; omega))
                  have hszN : w.heap.size + 2 ≤ w1.heap.size := by omega
                  clear hbar hrow1 hal h0 hBu hbuf hta htc htm hBBrow
                  go_wp2
                  go_roundg (n2 - (r + 1))
                  case measure => go_light; omega
                  case rel => go_light; exact ⟨r + 1, q + t, _, _, by omega, rfl, rfl, rfl, by simp, HF.out, by rw [cnt_step, HC.out]; rfl, htn2, hbufN, hBN, hszN⟩
                · go_wp2_with (at_builtin; refine wpList_append_rowN rfl (.tmp 87) (.tmp 93) 29 rfl 38 i1 3 Try.underlying29 hi1 hx1 (w.heap.size + 1) r n2 f ?e1 rfl wr.heap.size 0 1 1 rfl (blkCell r (.slice ta t tc) (.slice none 0 0)) ?e2 ?e3 ?e4 ?_)
                  case e1 => exact hBBrow.alloc _
                  case e2 => exact fun j hj => blk_list _ _ _ j hj
                  case e3 => exact fun j _ => blk_one _ _ _ _ _ _ _ j
                  case e4 => omega
                  intro w1 hbar hs1 hrow1
                  have hal : Below wr.heap.size wr (wr.alloc (.cells #[.int .u64 r, .slice ta t tc, .slice none 0 0] 38)) := (Below.refl _ _).alloc (Nat.le_refl _) _
                  have h0 := hBo.trans (hal.mono hszo)
                  have HF : Hid (Built w1 (w.heap.size + 1) n2 (r + 1) (fun i => if i = r then newBlk w.heap.size M z1 q r ta t tc none 0 0 ByteArray.empty else D i) (fun j => if r * 3 ≤ j ∧ j < r * 3 + 3 then blkCell r (.slice ta t tc) (.slice none 0 0) (j - r * 3) else f j)) :=
                    build_step hBu h0 hbar hrow1 hbuf hM2 HZ1.out htn2 htn1 ((hta.bar (Bar.of_below hal)).bar hbar) htc htm HTN.out (by omega) (fun _ => rfl) (fun h => absurd h (Nat.lt_irrefl 0)) (fun h => absurd h (Nat.lt_irrefl 0))
                  have hbufN := (hbuf.of_block (h0.block w.heap.size (by omega))).of_block (hbar.block w.heap.size (by simp; omega) (by omega))
                  have hBN : Below w.heap.size w w1 := (hB.trans (h0.mono (by omega))).trans (hbar.below (by omega) (by simp; omega))
                  have hszN : w.heap.size + 2 ≤ w1.heap.size := by omega
                  clear hbar hrow1 hal h0 hBu hbuf hta htc htm hBBrow
                  go_wp2
                  go_roundg (n2 - (r + 1))
                  case measure => go_light; omega
                  case rel => go_light; exact ⟨r + 1, q + t, _, _, by omega, rfl, rfl, rfl, by simp, HF.out, by rw [cnt_step, HC.out]; rfl, htn2, hbufN, hBN, hszN⟩
        · have hrz : ¬ ((r : Int) < (n2 : Int)) := by omega
          obtain rfl : r = n2 := by omega
          go_wp2
          go_ret
          exact ⟨_, D, rfl, hBu.chain, by rw [HC.out]; exact hq, hB⟩
end Go.Proofs.Qxb6001044a
