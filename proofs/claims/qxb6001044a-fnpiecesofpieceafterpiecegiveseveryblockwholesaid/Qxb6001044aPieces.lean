import Derived.Test.Qxb6001044aPlain
namespace Go.Proofs.Qxb6001044a
open Go.RowKit

/-- The index that piece j bears. -/
def idx (index : Int) (j : Nat) : Int := IntKind.u64.wrap (index + (j : Int))

/-- The certificates that piece j bears. -/
def pcert (D : Nat → Blk) (first j : Nat) : Value := if fst D first j = 0 then .slice (D j).ca (D j).cn (D j).cc else .slice none 0 0

/-- The four cells of piece j among the cells xs. -/
def PCell (D : Nat → Blk) (first : Nat) (index : Int) (E : Nat → Nat) (w : World) (xs : List Value) (j : Nat) : Prop :=
  xs[j * 4]? = some (.int .u64 (idx index j)) ∧ xs[j * 4 + 1]? = some (.int .u64 (fst D first j : Int)) ∧
  (∃ ta tc, xs[j * 4 + 2]? = some (.slice ta (E j - fst D first j) tc) ∧ Rd w ta (E j - fst D first j) (fun t => xv (D j) (fst D first j + t))) ∧
  xs[j * 4 + 3]? = some (pcert D first j)

/-- The slice of pieces, as the walks read it. -/
def PRd (w : World) (pa : Option Addr) (m : Nat) (D : Nat → Blk) (first : Nat) (index : Int) (E : Nat → Nat) : Prop :=
  0 < m → ∃ b, pa = some ⟨b, 0, none⟩ ∧ ∀ j, j < m → w.cell? ⟨b, j * 4, none⟩ = some (.int .u64 (idx index j)) ∧ w.cell? ⟨b, j * 4 + 1, none⟩ = some (.int .u64 (fst D first j : Int)) ∧
    (∃ ta tc, w.cell? ⟨b, j * 4 + 2, none⟩ = some (.slice ta (E j - fst D first j) tc) ∧ Rd w ta (E j - fst D first j) (fun t => xv (D j) (fst D first j + t))) ∧
    w.cell? ⟨b, j * 4 + 3, none⟩ = some (pcert D first j)

/-- What piecesOf comes to. -/
def PostPieces (D : Nat → Blk) (nb : Nat) (index : Int) (first : Nat) (w : World) (e : Ending) (w' : World) : Prop :=
  ∃ pa m pc E, e = .returned (.slice pa m pc) ∧ Pieces D nb first m E ∧ PRd w' pa m D first index E ∧ Below w.heap.size w w'

theorem own_pieces {w w' : World} {base : Nat} {v : Value} {m : Nat} {xs : List Value} {D : Nat → Blk} {first : Nat} {index : Int} {E : Nat → Nat} (h : w'.ownsRow base 40 4 v m xs) (hx : ∀ j, j < m → PCell D first index E w xs j) (hb : Below w.heap.size w w') :
    ∃ pa pc, v = .slice pa m pc ∧ PRd w' pa m D first index E := by
  rcases h.2 with ⟨rfl, rfl⟩ | ⟨g, cap, cur, rfl, hbg, hg, hnc, hcm, hcs, htake⟩
  · exact ⟨none, 0, rfl, fun h => absurd h (Nat.lt_irrefl 0)⟩
  · refine ⟨_, cap, rfl, fun _ => ⟨g, rfl, fun j hj => ?_⟩⟩
    obtain ⟨h0, h1, ⟨ta, tc, h2, h2'⟩, h3⟩ := hx j hj
    refine ⟨?_, ?_, ⟨ta, tc, ?_, h2'.mono hb⟩, ?_⟩
    · rw [h.cellAt _ (by omega)]; exact h0
    · rw [h.cellAt _ (by omega)]; exact h1
    · rw [h.cellAt _ (by omega)]; exact h2
    · rw [h.cellAt _ (by omega)]; exact h3

theorem pcell_old {D : Nat → Blk} {first : Nat} {index : Int} {E : Nat → Nat} {w : World} {xs ys : List Value} {r e : Nat} (hl : xs.length = r * 4) (h : ∀ j, j < r → PCell D first index E w xs j) :
    ∀ j, j < r → PCell D first index (upd E r e) w (xs ++ ys) j := fun j hj => by
  obtain ⟨h0, h1, ⟨ta, tc, h2, h2'⟩, h3⟩ := h j hj
  unfold PCell
  rw [upd_lt hj]
  refine ⟨?_, ?_, ⟨ta, tc, ?_, h2'⟩, ?_⟩
  · rw [List.getElem?_append_left (by omega)]; exact h0
  · rw [List.getElem?_append_left (by omega)]; exact h1
  · rw [List.getElem?_append_left (by omega)]; exact h2
  · rw [List.getElem?_append_left (by omega)]; exact h3

theorem pcell_new {D : Nat → Blk} {first : Nat} {index : Int} {E : Nat → Nat} {w : World} {xs : List Value} {r e : Nat} {ta : Option Addr} {tc : Nat} (hl : xs.length = r * 4) (h : ∀ j, j < r → PCell D first index E w xs j)
    (ht : Rd w ta (e - fst D first r) (fun t => xv (D r) (fst D first r + t))) {i f : Int} (hi : i = idx index r) (hf : f = (fst D first r : Int)) {n : Nat} (hn : n = e - fst D first r) {c : Value} (hc : c = pcert D first r) :
    ∀ j, j < r + 1 → PCell D first index (upd E r e) w (xs ++ [.int .u64 i, .int .u64 f, .slice ta n tc, c]) j := fun j hj => by
  by_cases e' : j < r
  · exact pcell_old hl h j e'
  · obtain rfl : j = r := by omega
    subst hi hf hn hc
    unfold PCell
    rw [upd_at]
    refine ⟨?_, ?_, ⟨ta, tc, ?_, ht⟩, ?_⟩
    · rw [List.getElem?_append_right (by omega), hl, Nat.sub_self]; rfl
    · rw [List.getElem?_append_right (by omega), hl, Nat.add_sub_cancel_left]; rfl
    · rw [List.getElem?_append_right (by omega), hl, Nat.add_sub_cancel_left]; rfl
    · rw [List.getElem?_append_right (by omega), hl, Nat.add_sub_cancel_left]; rfl

/-- 'b.Transactions[First:end]'. -/
theorem slice_tx (ta : Option Addr) (tn tc F e : Nat) (Fi : Int) (n c : Nat) (hFi : Fi = (F : Int)) (hn : n = e - F) (hc : c = tc - F) (h1 : F ≤ e) (h2 : e ≤ tn) (h3 : tn ≤ tc) :
    ∃ pta, (∀ w, (Instr.slice 35 (.slice ta tn tc) (some (.int .u64 Fi)) (some (.int .i64 (e : Int))) none).run Try.prog w = .ok (.slice pta n c) w) ∧ ∀ w V, Rd w ta tn V → Rd w pta (e - F) (fun t => V (F + t)) := by
  subst hFi hn hc
  refine ⟨if tc = F then ta else ta.map (·.add (F * 1)), fun w => ?_, fun w V hV hn => ?_⟩
  · have he : Try.prog.elem 35 = 43 := by kernel_rfl
    have hu : Try.prog.underlying 35 = some (.slice (Try.prog.elem 35)) := by rw [he]; exact Try.underlying35
    have h := run_slice_lh (P := Try.prog) w 35 ta tn tc hu .u64 .i64 (F : Int) (e : Int) (by omega) (by omega) (by omega)
    obtain ⟨i0, hi, _, hs, _⟩ := info_parts Try.info43
    rw [h, he]
    simp [sliced, sizeOf, typeInfo, hi, hs]
  · obtain ⟨b, o, rfl, hc⟩ := hV (by omega)
    rw [if_neg (by omega)]
    refine ⟨b, o + F, by simp [Addr.add_lit], fun i hi => ?_⟩
    rw [Nat.add_assoc]
    exact hc (F + i) (by omega)

theorem three_cells {w : World} {B : Nat} {v0 v1 v2 : Value} {t : TypeId} (h : w.heap[B]? = some (.cells #[v0, v1, v2] t (0, 0))) :
    w.cell? ⟨B, 0, none⟩ = some v0 ∧ w.cell? ⟨B, 1, none⟩ = some v1 ∧ w.cell? ⟨B, 2, none⟩ = some v2 := by
  refine ⟨?_, ?_, ?_⟩ <;> simp [World.cell?, h]
theorem four_cells' {w : World} {B : Nat} {v0 v1 v2 v3 : Value} {t : TypeId} (h : w.heap[B]? = some (.cells #[v0, v1, v2, v3] t (0, 0))) :
    w.cell? ⟨B, 0, none⟩ = some v0 ∧ w.cell? ⟨B, 1, none⟩ = some v1 ∧ w.cell? ⟨B, 2, none⟩ = some v2 ∧ w.cell? ⟨B, 3, none⟩ = some v3 ∧ w.frozen? ⟨B, 2, none⟩ = false := by
  refine ⟨?_, ?_, ?_, ?_, ?_⟩ <;> simp [World.cell?, World.frozen?, h]

/-- The two variables of a round, laid: block b's copy and the piece. -/
structure Vars (wo wq : World) (vb vp : Array Value) : Prop where
  b : wq.heap[wo.heap.size]? = some (.cells vb 38 (0, 0))
  p : wq.heap[wo.heap.size + 1]? = some (.cells vp 40 (0, 0))
  below : Below wo.heap.size wo wq
  size : wo.heap.size + 2 ≤ wq.heap.size

theorem Vars.start (wo : World) (vb vp : Array Value) : Vars wo ((wo.alloc (.cells vb 38)).alloc (.cells vp 40)) vb vp := by
  refine ⟨?_, ?_, ((Below.refl _ _).alloc (Nat.le_refl _) _).alloc (by simp) _, by simp⟩
  · rw [Deep.blk_alloc_lt _ _ _ (by simp), Deep.blk_alloc_new]
  · have := Deep.blk_alloc_new (wo.alloc (.cells vb 38)) (.cells vp 40)
    rwa [Deep.nblk_alloc] at this

theorem Vars.mono {wo wq wy : World} {vb vp : Array Value} (h : Vars wo wq vb vp) (hb : Below wq.heap.size wq wy) : Vars wo wy vb vp := by
  have := h.size
  exact ⟨(hb.block _ (by omega)).trans h.b, (hb.block _ (by omega)).trans h.p, h.below.trans (hb.mono (by omega)), Nat.le_trans h.size hb.size⟩

theorem csum_le (au : Nat → ByteArray) : ∀ k, (∀ c, c < k → (au c).size ≤ 1048576) → csum au k ≤ k * 1048594
  | 0, _ => Nat.le_refl _
  | k + 1, h => by
    have h1 := csum_le au k (fun c hc => h c (Nat.lt_succ_of_lt hc))
    have h2 := h k (Nat.lt_succ_self k)
    rw [csum]; omega

theorem ends_of {D : Nat → Blk} {first r : Nat} {E : Nat → Nat} {e s S1 F : Nat} (hF : fst D first r = F) (hS : sz D first E r + crt D first r = S1) (hr0 : r = 0 → S1 < 4194304) (hs : s = S1 + tsum (D r).xl F (e - F)) (h1 : F ≤ e) (h2 : e ≤ (D r).tn) (hout : e < (D r).tn → 4194304 ≤ s)
    (hit : F < e → S1 + tsum (D r).xl F (e - F - 1) < 4194304) : Ends D first r E e s := by
  subst hF hS
  refine ⟨h1, h2, hs, fun h => ⟨hout h, fun hh => ?_⟩, fun h => .inl (hit h)⟩
  have h3 := hout h
  have h4 := hr0 hh.1
  rw [hs, hh.2, Nat.sub_self] at h3
  simp only [tsum] at h3
  omega

theorem own_after {wo wq : World} {vb vp : Array Value} {base : Nat} {v : Value} {r : Nat} {xs : List Value} (hV : Vars wo wq vb vp) (h : wo.ownsRow base 40 4 v r xs) (v2 : Value) (o : Obj) : ((wq.setCell ⟨wo.heap.size + 1, 2, none⟩ v2).alloc o).ownsRow base 40 4 v r xs := by
  have hs := hV.size
  refine h.kept (row := none) ⟨hV.below.os, hV.below.tape, hV.below.output, ?_, fun k hk _ => ?_⟩ (by cases v.ownBlock <;> simp)
  · simp; omega
  · rw [Deep.blk_alloc_lt _ _ _ (by simp; omega), Deep.blk_setCell_other _ _ _ _ (by simp; omega)]
    exact hV.below.block k hk

/-- Behind the append: block b's copy still reads; nothing old has turned. -/
theorem after_append {w wo wq w1 : World} {v0 v1 v2 : Value} {vp : Array Value} {v : Value} {r : Nat} {xs : List Value} {x : Value} {o : Obj} (hV : Vars wo wq #[v0, v1, v2] vp) (h : wo.ownsRow w.heap.size 40 4 v r xs) (hB : Below w.heap.size w wo)
    (hg : ((wq.setCell ⟨wo.heap.size + 1, 2, none⟩ x).alloc o).grownBy w1 v.ownBlock) : w1.cell? ⟨wo.heap.size, 1, none⟩ = some v1 ∧ Below w.heap.size w w1 := by
  have hs := hV.size
  have hb := hB.size
  refine ⟨?_, ?_⟩
  · have hblk : w1.heap[wo.heap.size]? = some (.cells #[v0, v1, v2] 38 (0, 0)) := by
      rw [hg.block wo.heap.size (by simp; omega) (fun e => by have := (h.lt _ e.symm).2; omega), Deep.blk_alloc_lt _ _ _ (by simp; omega), Deep.blk_setCell_other _ _ _ _ (by simp)]
      exact hV.b
    exact (three_cells hblk).2.1
  · exact (((hB.trans (hV.below.mono hb)).setCell (by simp; omega) _).alloc (by simp; omega) _).grown hg (by simp; omega) (fun k hk => (h.lt k hk).1)

set_option maxHeartbeats 8000000 in
set_option maxRecDepth 100000 in
theorem pieces21 (ba : Option Addr) (BB off nb cap : Nat) (D : Nat → Blk) (index : Int) (first : Nat) (w : World) (hc : Chain w BB off nb D) (hba : 0 < nb → ba = some ⟨BB, off, none⟩) (hnb : nb ≤ 65536) :
    Calls Try.prog 21 #[.slice ba nb cap, .int .u64 index, .int .u64 (first : Int)] w (PostPieces D nb index first w) := by
  obtain ⟨i0, hi, hz0, hy1, hy2⟩ := info_parts Try.info40
  have HBA : Hid (0 < nb → ba = some ⟨BB, off, none⟩) := hba
  clear hba
  go_enter Try.func21, Try.ntmps21
  go_wp2
  go_loopg [7, 8, 17] nb (fun g v s i wx => ∃ (r sn : Nat) (E : Nat → Nat) (xs : List Value), r ≤ nb ∧ g = nb - r ∧ i = .int .i64 r ∧ s = .int .i64 sn ∧ sz D first E r = sn ∧ Going D nb first r E ∧ wx.ownsRow w.heap.size 40 4 v r xs ∧ (∀ j, j < r → PCell D first index E w xs j) ∧ Below w.heap.size w wx)
  case atStart => exact ⟨0, 0, fun _ => 0, [], Nat.zero_le _, rfl, rfl, rfl, rfl, Going.start _ _ _ _, World.ownsRow_nil _ _ _ _, fun j hj => absurd hj (Nat.not_lt_zero _), Below.refl _ _⟩
  case round =>
    obtain ⟨r, sn, E, xs, hr, rfl, rfl, rfl, hsz, hgo, hown, hxs, hB⟩ := hrel
    by_cases hlt : r < nb
    · obtain rfl := HBA.out (by omega)
      have hrz : (r : Int) < (nb : Int) := by omega
      have hs4 : sn < 4194304 := by rw [← hsz]; exact hgo.small r (Nat.le_refl _)
      have HSZ : Hid (sz D first E r = sn) := hsz
      have HXS : Hid (∀ j, j < r → PCell D first index E w xs j) := hxs
      have k0 := cell_later hB (hc.c0 r hlt)
      have k1 := cell_later hB (hc.c1 r hlt)
      have k2 := cell_later hB (hc.c2 r hlt)
      have hgd := hc.good r hlt
      have htn := hgd.tn
      have hTx := hc.txs r hlt
      have hSl := hc.slots r hlt
      clear hsz hxs hc HBA
      obtain ⟨wo, rfl⟩ : ∃ x, x = wr := ⟨wr, rfl⟩
      by_cases hr0 : r = 0
      · have hfr : fst D first r = min first (D r).tn := by rw [hr0]; rfl
        have HR0 : Hid (r = 0) := hr0
        have hrb : ((r : Int) == 0) = true := beq_iff_eq.2 (by omega)
        clear hr0
        by_cases hF0 : min first (D r).tn = 0
        · have HF0 : Hid (fst D first r = 0) := by rw [hfr]; exact hF0
          have hmin : ∀ (w : World), (Builtin.min_ #[24, 24] 24 #[.int .u64 (first : Int), .int .u64 ((D r).tn : Int)]).run Try.prog w = .ok (.int .u64 0) w := fun w => by
            rw [run_min_int2]
            congr 2
            split <;> omega
          clear hfr hF0
          go_wp2
          clear hmin
          obtain ⟨w2, hw2⟩ : ∃ x, x = (wo.alloc (.cells #[.int .u64 (D r).rd, .slice (D r).ta (D r).tn (D r).tc, .slice (D r).ca (D r).cn (D r).cc] 38)).alloc (.cells #[.int .u64 (IntKind.u64.wrap (index + (r : Int))), .int .u64 0, .slice none 0 0, .slice (D r).ca (D r).cn (D r).cc] 40) := ⟨_, rfl⟩
          have hV2 : Vars wo w2 #[.int .u64 (D r).rd, .slice (D r).ta (D r).tn (D r).tc, .slice (D r).ca (D r).cn (D r).cc] #[.int .u64 (IntKind.u64.wrap (index + (r : Int))), .int .u64 0, .slice none 0 0, .slice (D r).ca (D r).cn (D r).cc] := by rw [hw2]; exact Vars.start _ _ _
          rw [← hw2]
          clear hw2 k0 k1 k2
          go_loopg [8, 45] (D r).cn (fun g s c wy => ∃ k : Nat, k ≤ (D r).cn ∧ g = (D r).cn - k ∧ c = .int .i64 k ∧ s = .int .i64 ((sn + csum (D r).au k : Nat) : Int) ∧ Below w2.heap.size w2 wy)
          case atStart => exact ⟨0, Nat.zero_le _, rfl, rfl, rfl, Below.refl _ _⟩
          case round =>
            obtain ⟨k, hk, rfl, rfl, rfl, hB3⟩ := hrel
            have hcs := csum_le (D r).au k (fun c hc' => hgd.au c (by omega))
            have hcn1 := hgd.cn
            generalize hcg : csum (D r).au k = cs at hcs ⊢
            have HCG : Hid (csum (D r).au k = cs) := hcg
            clear hcg
            by_cases hklt : k < (D r).cn
            · have hkz : (k : Int) < ((D r).cn : Int) := by omega
              obtain ⟨bs, os, hca, hsc⟩ := hSl (by omega)
              have g0 := cell_later hB3 (cell_later (hV2.below) (cell_later hB (hsc k hklt).1))
              have g1 := cell_later hB3 (cell_later (hV2.below) (cell_later hB (hsc k hklt).2))
              have hau := hgd.au k hklt
              have hcs2 : cs ≤ 1048594 := by omega
              clear hsc hSl hcs
              rw [hca]
              go_wp2
              rw [← hca]
              clear hca
              go_roundg ((D r).cn - (k + 1))
              case measure => go_light; omega
              case rel => go_light; exact ⟨k + 1, by omega, rfl, by simp, by rw [csum, HCG.out]; go_num, hB3.alloc hB3.size _⟩
            · have hkz : ¬ ((k : Int) < ((D r).cn : Int)) := by omega
              have hke : k = (D r).cn := by omega
              obtain ⟨S1, hS1⟩ : ∃ S1, sn + cs = S1 := ⟨_, rfl⟩
              have HS1 : Hid (sn + csum (D r).au (D r).cn = S1) := by rw [← hke, HCG.out]; exact hS1
              have hS1b : S1 ≤ sn + 1048594 := by omega
              rw [hS1]
              have hV := hV2.mono hB3
              clear hS1 hcs hke HCG hB3 hV2 hk hklt
              obtain ⟨wq, rfl⟩ : ∃ x, x = wr := ⟨wr, rfl⟩
              have hFt : 0 ≤ (D r).tn := Nat.zero_le _
              have HFS : Hid (fst D first r = 0) := HF0
              have HCS : Hid (sz D first E r + crt D first r = S1) := by show sz D first E r + (if fst D first r = 0 then csum (D r).au (D r).cn else 0) = S1; rw [HF0.out, if_pos rfl, HSZ.out]; exact HS1.out
              have HS0 : Hid (r = 0 → S1 < 4194304) := fun h => by have h1 := HSZ.out; rw [h] at h1; simp only [sz] at h1; omega
              obtain ⟨m0, m1, m2⟩ := three_cells hV.b
              obtain ⟨p0, p1, p2, p3, p4⟩ := four_cells' hV.p
              have hszq := hV.size
              go_wp2
              go_loopg [8, 14] ((D r).tn - 0) (fun g s e wy => wq = wy ∧ ∃ en s3 : Nat, 0 ≤ en ∧ en ≤ (D r).tn ∧ g = (D r).tn - en ∧ e = .int .i64 en ∧ s = .int .i64 s3 ∧ s3 = S1 + tsum (D r).xl 0 (en - 0) ∧ s3 ≤ 6000000 ∧ (0 < en → S1 + tsum (D r).xl 0 (en - 0 - 1) < 4194304))
              case atStart => exact ⟨rfl, 0, S1, Nat.le_refl _, hFt, rfl, rfl, rfl, by rw [Nat.sub_self]; rfl, by omega, fun h => absurd h (Nat.lt_irrefl _)⟩
              case round =>
                obtain ⟨rfl, en, s3, hFe, hee, rfl, rfl, rfl, hs3, hs3b, hit⟩ := hrel
                have HS3 : Hid (s3 = S1 + tsum (D r).xl 0 (en - 0)) := hs3
                have HIT : Hid (0 < en → S1 + tsum (D r).xl 0 (en - 0 - 1) < 4194304) := hit
                clear hs3 hit
                by_cases helt : en < (D r).tn
                · have hez : (en : Int) < ((D r).tn : Int) := by omega
                  by_cases hsl4 : s3 < 4194304
                  · have hs4z : (s3 : Int) < 4194304 := by omega
                    obtain ⟨bt, ot, hta, htx⟩ := hTx (by omega)
                    have gt : wq.cell? ⟨bt, ot + en, none⟩ = some (.slice ((D r).xa en) ((D r).xl en) ((D r).xc en)) := cell_later hV.below (cell_later hB (htx en helt))
                    have hxl := hgd.xl en helt
                    have HTA : Hid ((D r).ta = some ⟨bt, ot, none⟩) := hta
                    rw [hta] at m1 ⊢
                    clear htx hta
                    go_wp2
                    rw [← HTA.out]
                    go_roundg ((D r).tn - (en + 1))
                    case measure => go_light; omega
                    case rel =>
                      go_light
                      refine ⟨rfl, en + 1, s3 + ((D r).xl en + 9), by omega, by omega, rfl, by simp, by go_num, ?_, by omega, fun _ => ?_⟩
                      · rw [show en + 1 - 0 = (en - 0) + 1 from by omega, tsum, HS3.out, show 0 + (en - 0) = en from by omega]; omega
                      · rw [show en + 1 - 0 - 1 = en - 0 from by omega, ← HS3.out]; exact hsl4
                  · have hs4z : ¬ ((s3 : Int) < 4194304) := by omega
                    have HE : Ends D first r E en s3 := ends_of HFS.out HCS.out HS0.out HS3.out hFe hee (fun _ => by omega) HIT.out
                    have hen : en ≠ 0 := fun h => by
                      have h1 := HS3.out
                      rw [h, Nat.sub_self] at h1
                      simp only [tsum] at h1
                      have h2 := HS0.out HR0.out
                      omega
                    have henb : ((en : Int) == 0) = false := beq_eq_false_iff_ne.2 (by omega)
                    clear hen
                    have t1 : (en : Int) < ((D r).tn : Int) := by omega
                    have HD : Hid (Pieces D nb first (r + 1) (upd E r en)) := hgo.stop hlt HE (.inl (by omega))
                    obtain ⟨pta, hsl, hptr⟩ := slice_tx (D r).ta (D r).tn (D r).tc 0 en 0 en (D r).tc (by simp) (by simp) (by simp) hFe hee hgd.tc
                    have HRd : Hid (Rd w pta (en - 0) (fun t => xv (D r) (0 + t))) := hptr w _ hTx
                    clear hptr HE hgo
                    go_wp2_with (at_builtin; refine wpList_append_own _ rfl (.tmp 97) (.tmp 99) 31 rfl w.heap.size 40 i0 (.agg #[.int .u64 0, .int .u64 0, .slice none 0 0, .slice none 0 0]) 4 64 Try.underlying31 hi hz0 hy1 hy2 rfl (by decide) u7 r xs rfl ?q1_0 ⟨wq.heap.size, 0, none⟩ 1 1 [.int .u64 (IntKind.u64.wrap (index + (r : Int))), .int .u64 0, .slice pta en (D r).tc, (.slice (D r).ca (D r).cn (D r).cc)] rfl ?q1_1 ?q1_2 ?q1_3 ?q1_4 ?q1_5 ?q1_6 ?_)
                    case q1_0 => exact own_after hV hown _ _
                    case q1_3 => simp [Value.oneCell']
                    case q1_4 => unfold maxLen; omega
                    case q1_5 => omega
                    case q1_6 => have := hB.size; simp; omega
                    intro v' w1 hown' hgrow _
                    obtain ⟨n1, hBN⟩ := after_append hV hown hB hgrow
                    have HPC : Hid (∀ j, j < r + 1 → PCell D first index (upd E r en) w (xs ++ [.int .u64 (IntKind.u64.wrap (index + (r : Int))), .int .u64 0, .slice pta en (D r).tc, (.slice (D r).ca (D r).cn (D r).cc)]) j) := pcell_new hown.1 HXS.out (by rw [HFS.out]; exact HRd.out) (rfl) (by first | (rw [HFS.out]; done) | (rw [HFS.out]; rfl)) (by first | (rw [HFS.out]; done) | (rw [HFS.out]; rfl) | (rw [HFS.out]; simp)) ((if_pos HFS.out).symm)
                    clear hgrow hsl hown m0 m1 m2 p0 p1 p2 p3 p4
                    obtain ⟨pa, pc, hv, hP⟩ := own_pieces hown' HPC.out hBN
                    rw [hv]
                    clear hv hown'
                    go_wp2
                    go_ret
                    exact ⟨pa, r + 1, pc, upd E r en, rfl, HD.out, hP, hBN⟩
                · have hez : ¬ ((en : Int) < ((D r).tn : Int)) := by omega
                  have HE : Ends D first r E en s3 := ends_of HFS.out HCS.out HS0.out HS3.out hFe hee (fun h => absurd h helt) HIT.out
                  by_cases hsl4 : 4194304 ≤ s3
                  · skip
                    have t1 : ¬ ((en : Int) < ((D r).tn : Int)) := by omega
                    have t2 : (4194304 : Int) ≤ (s3 : Int) := by omega
                    have HD : Hid (Pieces D nb first (r + 1) (upd E r en)) := hgo.stop hlt HE (.inr (by omega))
                    obtain ⟨pta, hsl, hptr⟩ := slice_tx (D r).ta (D r).tn (D r).tc 0 en 0 en (D r).tc (by simp) (by simp) (by simp) hFe hee hgd.tc
                    have HRd : Hid (Rd w pta (en - 0) (fun t => xv (D r) (0 + t))) := hptr w _ hTx
                    clear hptr HE hgo
                    go_wp2_with (at_builtin; refine wpList_append_own _ rfl (.tmp 97) (.tmp 99) 31 rfl w.heap.size 40 i0 (.agg #[.int .u64 0, .int .u64 0, .slice none 0 0, .slice none 0 0]) 4 64 Try.underlying31 hi hz0 hy1 hy2 rfl (by decide) u7 r xs rfl ?q2_0 ⟨wq.heap.size, 0, none⟩ 1 1 [.int .u64 (IntKind.u64.wrap (index + (r : Int))), .int .u64 0, .slice pta en (D r).tc, (.slice (D r).ca (D r).cn (D r).cc)] rfl ?q2_1 ?q2_2 ?q2_3 ?q2_4 ?q2_5 ?q2_6 ?_)
                    case q2_0 => exact own_after hV hown _ _
                    case q2_3 => simp [Value.oneCell']
                    case q2_4 => unfold maxLen; omega
                    case q2_5 => omega
                    case q2_6 => have := hB.size; simp; omega
                    intro v' w1 hown' hgrow _
                    obtain ⟨n1, hBN⟩ := after_append hV hown hB hgrow
                    have HPC : Hid (∀ j, j < r + 1 → PCell D first index (upd E r en) w (xs ++ [.int .u64 (IntKind.u64.wrap (index + (r : Int))), .int .u64 0, .slice pta en (D r).tc, (.slice (D r).ca (D r).cn (D r).cc)]) j) := pcell_new hown.1 HXS.out (by rw [HFS.out]; exact HRd.out) (rfl) (by first | (rw [HFS.out]; done) | (rw [HFS.out]; rfl)) (by first | (rw [HFS.out]; done) | (rw [HFS.out]; rfl) | (rw [HFS.out]; simp)) ((if_pos HFS.out).symm)
                    clear hgrow hsl hown m0 m1 m2 p0 p1 p2 p3 p4
                    obtain ⟨pa, pc, hv, hP⟩ := own_pieces hown' HPC.out hBN
                    rw [hv]
                    clear hv hown'
                    go_wp2
                    go_ret
                    exact ⟨pa, r + 1, pc, upd E r en, rfl, HD.out, hP, hBN⟩
                  · skip
                    have t1 : ¬ ((en : Int) < ((D r).tn : Int)) := by omega
                    have t2 : decide ((4194304 : Int) ≤ (s3 : Int)) = false := decide_eq_false (by omega)
                    have t3 : ((4194304 : Int) ≤ (s3 : Int)) = False := eq_false (by omega)
                    have HD : Hid (Going D nb first (r + 1) (upd E r en)) := hgo.step hlt HE (by omega) (by omega)
                    clear hsl4
                    have HSZ2 : Hid (sz D first (upd E r en) (r + 1) = s3) := HE.sz
                    obtain ⟨pta, hsl, hptr⟩ := slice_tx (D r).ta (D r).tn (D r).tc 0 en 0 en (D r).tc (by simp) (by simp) (by simp) hFe hee hgd.tc
                    have HRd : Hid (Rd w pta (en - 0) (fun t => xv (D r) (0 + t))) := hptr w _ hTx
                    clear hptr HE hgo
                    go_wp2_with (at_builtin; refine wpList_append_own _ rfl (.tmp 97) (.tmp 99) 31 rfl w.heap.size 40 i0 (.agg #[.int .u64 0, .int .u64 0, .slice none 0 0, .slice none 0 0]) 4 64 Try.underlying31 hi hz0 hy1 hy2 rfl (by decide) u7 r xs rfl ?q3_0 ⟨wq.heap.size, 0, none⟩ 1 1 [.int .u64 (IntKind.u64.wrap (index + (r : Int))), .int .u64 0, .slice pta en (D r).tc, (.slice (D r).ca (D r).cn (D r).cc)] rfl ?q3_1 ?q3_2 ?q3_3 ?q3_4 ?q3_5 ?q3_6 ?_)
                    case q3_0 => exact own_after hV hown _ _
                    case q3_3 => simp [Value.oneCell']
                    case q3_4 => unfold maxLen; omega
                    case q3_5 => omega
                    case q3_6 => have := hB.size; simp; omega
                    intro v' w1 hown' hgrow _
                    obtain ⟨n1, hBN⟩ := after_append hV hown hB hgrow
                    have HPC : Hid (∀ j, j < r + 1 → PCell D first index (upd E r en) w (xs ++ [.int .u64 (IntKind.u64.wrap (index + (r : Int))), .int .u64 0, .slice pta en (D r).tc, (.slice (D r).ca (D r).cn (D r).cc)]) j) := pcell_new hown.1 HXS.out (by rw [HFS.out]; exact HRd.out) (rfl) (by first | (rw [HFS.out]; done) | (rw [HFS.out]; rfl)) (by first | (rw [HFS.out]; done) | (rw [HFS.out]; rfl) | (rw [HFS.out]; simp)) ((if_pos HFS.out).symm)
                    clear hgrow hsl hown m0 m1 m2 p0 p1 p2 p3 p4
                    go_wp2
                    go_roundg (nb - (r + 1))
                    case measure => go_light; omega
                    case rel => go_light; exact ⟨r + 1, s3, upd E r en, _, by omega, rfl, by simp, rfl, HSZ2.out, HD.out, hown', HPC.out, hBN⟩
        · obtain ⟨F, hFF⟩ : ∃ F, min first (D r).tn = F := ⟨_, rfl⟩
          have HFS : Hid (fst D first r = F) := by rw [hfr]; exact hFF
          have hFt : F ≤ (D r).tn := by omega
          have hFpos : 0 < F := by omega
          have hFb : ((F : Int) == 0) = false := beq_eq_false_iff_ne.2 (by omega)
          have hmin : ∀ (w : World), (Builtin.min_ #[24, 24] 24 #[.int .u64 (first : Int), .int .u64 ((D r).tn : Int)]).run Try.prog w = .ok (.int .u64 (F : Int)) w := fun w => by
            rw [run_min_int2]
            congr 2
            split <;> omega
          clear hfr hF0 hFF
          go_wp2
          clear hmin
          obtain ⟨wq, hwq⟩ : ∃ x, x = (wo.alloc (.cells #[.int .u64 (D r).rd, .slice (D r).ta (D r).tn (D r).tc, .slice (D r).ca (D r).cn (D r).cc] 38)).alloc (.cells #[.int .u64 (IntKind.u64.wrap (index + (r : Int))), .int .u64 (F : Int), .slice none 0 0, .slice none 0 0] 40) := ⟨_, rfl⟩
          have hV : Vars wo wq #[.int .u64 (D r).rd, .slice (D r).ta (D r).tn (D r).tc, .slice (D r).ca (D r).cn (D r).cc] #[.int .u64 (IntKind.u64.wrap (index + (r : Int))), .int .u64 (F : Int), .slice none 0 0, .slice none 0 0] := by rw [hwq]; exact Vars.start _ _ _
          rw [← hwq]
          clear hwq k0 k1 k2
          obtain ⟨S1, hS1⟩ : ∃ S1, sn = S1 := ⟨_, rfl⟩
          have hS1b : S1 ≤ sn + 1048594 := by omega
          have HCS : Hid (sz D first E r + crt D first r = S1) := by show sz D first E r + (if fst D first r = 0 then csum (D r).au (D r).cn else 0) = S1; rw [HFS.out, if_neg (by omega), HSZ.out]; exact hS1
          have HS0 : Hid (r = 0 → S1 < 4194304) := fun h => by have h1 := HSZ.out; rw [h] at h1; simp only [sz] at h1; omega
          rw [hS1]
          clear hS1
          obtain ⟨m0, m1, m2⟩ := three_cells hV.b
          obtain ⟨p0, p1, p2, p3, p4⟩ := four_cells' hV.p
          have hszq := hV.size
          go_loopg [8, 14] ((D r).tn - F) (fun g s e wy => wq = wy ∧ ∃ en s3 : Nat, F ≤ en ∧ en ≤ (D r).tn ∧ g = (D r).tn - en ∧ e = .int .i64 en ∧ s = .int .i64 s3 ∧ s3 = S1 + tsum (D r).xl F (en - F) ∧ s3 ≤ 6000000 ∧ (F < en → S1 + tsum (D r).xl F (en - F - 1) < 4194304))
          case atStart => exact ⟨rfl, F, S1, Nat.le_refl _, hFt, rfl, rfl, rfl, by rw [Nat.sub_self]; rfl, by omega, fun h => absurd h (Nat.lt_irrefl _)⟩
          case round =>
            obtain ⟨rfl, en, s3, hFe, hee, rfl, rfl, rfl, hs3, hs3b, hit⟩ := hrel
            have HS3 : Hid (s3 = S1 + tsum (D r).xl F (en - F)) := hs3
            have HIT : Hid (F < en → S1 + tsum (D r).xl F (en - F - 1) < 4194304) := hit
            clear hs3 hit
            by_cases helt : en < (D r).tn
            · have hez : (en : Int) < ((D r).tn : Int) := by omega
              by_cases hsl4 : s3 < 4194304
              · have hs4z : (s3 : Int) < 4194304 := by omega
                obtain ⟨bt, ot, hta, htx⟩ := hTx (by omega)
                have gt : wq.cell? ⟨bt, ot + en, none⟩ = some (.slice ((D r).xa en) ((D r).xl en) ((D r).xc en)) := cell_later hV.below (cell_later hB (htx en helt))
                have hxl := hgd.xl en helt
                have HTA : Hid ((D r).ta = some ⟨bt, ot, none⟩) := hta
                rw [hta] at m1 ⊢
                clear htx hta
                go_wp2
                rw [← HTA.out]
                go_roundg ((D r).tn - (en + 1))
                case measure => go_light; omega
                case rel =>
                  go_light
                  refine ⟨rfl, en + 1, s3 + ((D r).xl en + 9), by omega, by omega, rfl, by simp, by go_num, ?_, by omega, fun _ => ?_⟩
                  · rw [show en + 1 - F = (en - F) + 1 from by omega, tsum, HS3.out, show F + (en - F) = en from by omega]; omega
                  · rw [show en + 1 - F - 1 = en - F from by omega, ← HS3.out]; exact hsl4
              · have hs4z : ¬ ((s3 : Int) < 4194304) := by omega
                have HE : Ends D first r E en s3 := ends_of HFS.out HCS.out HS0.out HS3.out hFe hee (fun _ => by omega) HIT.out
                have hen : en ≠ F := fun h => by
                  have h1 := HS3.out
                  rw [h, Nat.sub_self] at h1
                  simp only [tsum] at h1
                  have h2 := HS0.out HR0.out
                  omega
                have henb : ((en : Int) == (F : Int)) = false := beq_eq_false_iff_ne.2 (by omega)
                clear hen
                have t1 : (en : Int) < ((D r).tn : Int) := by omega
                have HD : Hid (Pieces D nb first (r + 1) (upd E r en)) := hgo.stop hlt HE (.inl (by omega))
                obtain ⟨pta, hsl, hptr⟩ := slice_tx (D r).ta (D r).tn (D r).tc F en (F : Int) (en - F) ((D r).tc - F) (by simp) (by simp) (by simp) hFe hee hgd.tc
                have HRd : Hid (Rd w pta (en - F) (fun t => xv (D r) (F + t))) := hptr w _ hTx
                clear hptr HE hgo
                go_wp2_with (at_builtin; refine wpList_append_own _ rfl (.tmp 97) (.tmp 99) 31 rfl w.heap.size 40 i0 (.agg #[.int .u64 0, .int .u64 0, .slice none 0 0, .slice none 0 0]) 4 64 Try.underlying31 hi hz0 hy1 hy2 rfl (by decide) u7 r xs rfl ?q4_0 ⟨wq.heap.size, 0, none⟩ 1 1 [.int .u64 (IntKind.u64.wrap (index + (r : Int))), .int .u64 (F : Int), .slice pta (en - F) ((D r).tc - F), (.slice none 0 0)] rfl ?q4_1 ?q4_2 ?q4_3 ?q4_4 ?q4_5 ?q4_6 ?_)
                case q4_0 => exact own_after hV hown _ _
                case q4_3 => simp [Value.oneCell']
                case q4_4 => unfold maxLen; omega
                case q4_5 => omega
                case q4_6 => have := hB.size; simp; omega
                intro v' w1 hown' hgrow _
                obtain ⟨n1, hBN⟩ := after_append hV hown hB hgrow
                have HPC : Hid (∀ j, j < r + 1 → PCell D first index (upd E r en) w (xs ++ [.int .u64 (IntKind.u64.wrap (index + (r : Int))), .int .u64 (F : Int), .slice pta (en - F) ((D r).tc - F), (.slice none 0 0)]) j) := pcell_new hown.1 HXS.out (by rw [HFS.out]; exact HRd.out) (rfl) (by first | (rw [HFS.out]; done) | (rw [HFS.out]; rfl)) (by first | (rw [HFS.out]; done) | (rw [HFS.out]; rfl) | (rw [HFS.out]; simp)) ((if_neg (by rw [HFS.out]; omega)).symm)
                clear hgrow hsl hown m0 m1 m2 p0 p1 p2 p3 p4
                obtain ⟨pa, pc, hv, hP⟩ := own_pieces hown' HPC.out hBN
                rw [hv]
                clear hv hown'
                go_wp2
                go_ret
                exact ⟨pa, r + 1, pc, upd E r en, rfl, HD.out, hP, hBN⟩
            · have hez : ¬ ((en : Int) < ((D r).tn : Int)) := by omega
              have HE : Ends D first r E en s3 := ends_of HFS.out HCS.out HS0.out HS3.out hFe hee (fun h => absurd h helt) HIT.out
              by_cases hsl4 : 4194304 ≤ s3
              · skip
                have t1 : ¬ ((en : Int) < ((D r).tn : Int)) := by omega
                have t2 : (4194304 : Int) ≤ (s3 : Int) := by omega
                have HD : Hid (Pieces D nb first (r + 1) (upd E r en)) := hgo.stop hlt HE (.inr (by omega))
                obtain ⟨pta, hsl, hptr⟩ := slice_tx (D r).ta (D r).tn (D r).tc F en (F : Int) (en - F) ((D r).tc - F) (by simp) (by simp) (by simp) hFe hee hgd.tc
                have HRd : Hid (Rd w pta (en - F) (fun t => xv (D r) (F + t))) := hptr w _ hTx
                clear hptr HE hgo
                go_wp2_with (at_builtin; refine wpList_append_own _ rfl (.tmp 97) (.tmp 99) 31 rfl w.heap.size 40 i0 (.agg #[.int .u64 0, .int .u64 0, .slice none 0 0, .slice none 0 0]) 4 64 Try.underlying31 hi hz0 hy1 hy2 rfl (by decide) u7 r xs rfl ?q5_0 ⟨wq.heap.size, 0, none⟩ 1 1 [.int .u64 (IntKind.u64.wrap (index + (r : Int))), .int .u64 (F : Int), .slice pta (en - F) ((D r).tc - F), (.slice none 0 0)] rfl ?q5_1 ?q5_2 ?q5_3 ?q5_4 ?q5_5 ?q5_6 ?_)
                case q5_0 => exact own_after hV hown _ _
                case q5_3 => simp [Value.oneCell']
                case q5_4 => unfold maxLen; omega
                case q5_5 => omega
                case q5_6 => have := hB.size; simp; omega
                intro v' w1 hown' hgrow _
                obtain ⟨n1, hBN⟩ := after_append hV hown hB hgrow
                have HPC : Hid (∀ j, j < r + 1 → PCell D first index (upd E r en) w (xs ++ [.int .u64 (IntKind.u64.wrap (index + (r : Int))), .int .u64 (F : Int), .slice pta (en - F) ((D r).tc - F), (.slice none 0 0)]) j) := pcell_new hown.1 HXS.out (by rw [HFS.out]; exact HRd.out) (rfl) (by first | (rw [HFS.out]; done) | (rw [HFS.out]; rfl)) (by first | (rw [HFS.out]; done) | (rw [HFS.out]; rfl) | (rw [HFS.out]; simp)) ((if_neg (by rw [HFS.out]; omega)).symm)
                clear hgrow hsl hown m0 m1 m2 p0 p1 p2 p3 p4
                obtain ⟨pa, pc, hv, hP⟩ := own_pieces hown' HPC.out hBN
                rw [hv]
                clear hv hown'
                go_wp2
                go_ret
                exact ⟨pa, r + 1, pc, upd E r en, rfl, HD.out, hP, hBN⟩
              · skip
                have t1 : ¬ ((en : Int) < ((D r).tn : Int)) := by omega
                have t2 : decide ((4194304 : Int) ≤ (s3 : Int)) = false := decide_eq_false (by omega)
                have t3 : ((4194304 : Int) ≤ (s3 : Int)) = False := eq_false (by omega)
                have HD : Hid (Going D nb first (r + 1) (upd E r en)) := hgo.step hlt HE (by omega) (by omega)
                clear hsl4
                have HSZ2 : Hid (sz D first (upd E r en) (r + 1) = s3) := HE.sz
                obtain ⟨pta, hsl, hptr⟩ := slice_tx (D r).ta (D r).tn (D r).tc F en (F : Int) (en - F) ((D r).tc - F) (by simp) (by simp) (by simp) hFe hee hgd.tc
                have HRd : Hid (Rd w pta (en - F) (fun t => xv (D r) (F + t))) := hptr w _ hTx
                clear hptr HE hgo
                go_wp2_with (at_builtin; refine wpList_append_own _ rfl (.tmp 97) (.tmp 99) 31 rfl w.heap.size 40 i0 (.agg #[.int .u64 0, .int .u64 0, .slice none 0 0, .slice none 0 0]) 4 64 Try.underlying31 hi hz0 hy1 hy2 rfl (by decide) u7 r xs rfl ?q6_0 ⟨wq.heap.size, 0, none⟩ 1 1 [.int .u64 (IntKind.u64.wrap (index + (r : Int))), .int .u64 (F : Int), .slice pta (en - F) ((D r).tc - F), (.slice none 0 0)] rfl ?q6_1 ?q6_2 ?q6_3 ?q6_4 ?q6_5 ?q6_6 ?_)
                case q6_0 => exact own_after hV hown _ _
                case q6_3 => simp [Value.oneCell']
                case q6_4 => unfold maxLen; omega
                case q6_5 => omega
                case q6_6 => have := hB.size; simp; omega
                intro v' w1 hown' hgrow _
                obtain ⟨n1, hBN⟩ := after_append hV hown hB hgrow
                have HPC : Hid (∀ j, j < r + 1 → PCell D first index (upd E r en) w (xs ++ [.int .u64 (IntKind.u64.wrap (index + (r : Int))), .int .u64 (F : Int), .slice pta (en - F) ((D r).tc - F), (.slice none 0 0)]) j) := pcell_new hown.1 HXS.out (by rw [HFS.out]; exact HRd.out) (rfl) (by first | (rw [HFS.out]; done) | (rw [HFS.out]; rfl)) (by first | (rw [HFS.out]; done) | (rw [HFS.out]; rfl) | (rw [HFS.out]; simp)) ((if_neg (by rw [HFS.out]; omega)).symm)
                clear hgrow hsl hown m0 m1 m2 p0 p1 p2 p3 p4
                go_wp2
                go_roundg (nb - (r + 1))
                case measure => go_light; omega
                case rel => go_light; exact ⟨r + 1, s3, upd E r en, _, by omega, rfl, by simp, rfl, HSZ2.out, HD.out, hown', HPC.out, hBN⟩
      · have hrb : ((r : Int) == 0) = false := beq_eq_false_iff_ne.2 (by omega)
        have HF0 : Hid (fst D first r = 0) := if_neg hr0
        go_wp2
        obtain ⟨w2, hw2⟩ : ∃ x, x = (wo.alloc (.cells #[.int .u64 (D r).rd, .slice (D r).ta (D r).tn (D r).tc, .slice (D r).ca (D r).cn (D r).cc] 38)).alloc (.cells #[.int .u64 (IntKind.u64.wrap (index + (r : Int))), .int .u64 0, .slice none 0 0, .slice (D r).ca (D r).cn (D r).cc] 40) := ⟨_, rfl⟩
        have hV2 : Vars wo w2 #[.int .u64 (D r).rd, .slice (D r).ta (D r).tn (D r).tc, .slice (D r).ca (D r).cn (D r).cc] #[.int .u64 (IntKind.u64.wrap (index + (r : Int))), .int .u64 0, .slice none 0 0, .slice (D r).ca (D r).cn (D r).cc] := by rw [hw2]; exact Vars.start _ _ _
        rw [← hw2]
        clear hw2 k0 k1 k2
        go_loopg [8, 45] (D r).cn (fun g s c wy => ∃ k : Nat, k ≤ (D r).cn ∧ g = (D r).cn - k ∧ c = .int .i64 k ∧ s = .int .i64 ((sn + csum (D r).au k : Nat) : Int) ∧ Below w2.heap.size w2 wy)
        case atStart => exact ⟨0, Nat.zero_le _, rfl, rfl, rfl, Below.refl _ _⟩
        case round =>
          obtain ⟨k, hk, rfl, rfl, rfl, hB3⟩ := hrel
          have hcs := csum_le (D r).au k (fun c hc' => hgd.au c (by omega))
          have hcn1 := hgd.cn
          generalize hcg : csum (D r).au k = cs at hcs ⊢
          have HCG : Hid (csum (D r).au k = cs) := hcg
          clear hcg
          by_cases hklt : k < (D r).cn
          · have hkz : (k : Int) < ((D r).cn : Int) := by omega
            obtain ⟨bs, os, hca, hsc⟩ := hSl (by omega)
            have g0 := cell_later hB3 (cell_later (hV2.below) (cell_later hB (hsc k hklt).1))
            have g1 := cell_later hB3 (cell_later (hV2.below) (cell_later hB (hsc k hklt).2))
            have hau := hgd.au k hklt
            have hcs2 : cs ≤ 1048594 := by omega
            clear hsc hSl hcs
            rw [hca]
            go_wp2
            rw [← hca]
            clear hca
            go_roundg ((D r).cn - (k + 1))
            case measure => go_light; omega
            case rel => go_light; exact ⟨k + 1, by omega, rfl, by simp, by rw [csum, HCG.out]; go_num, hB3.alloc hB3.size _⟩
          · have hkz : ¬ ((k : Int) < ((D r).cn : Int)) := by omega
            have hke : k = (D r).cn := by omega
            obtain ⟨S1, hS1⟩ : ∃ S1, sn + cs = S1 := ⟨_, rfl⟩
            have HS1 : Hid (sn + csum (D r).au (D r).cn = S1) := by rw [← hke, HCG.out]; exact hS1
            have hS1b : S1 ≤ sn + 1048594 := by omega
            rw [hS1]
            have hV := hV2.mono hB3
            clear hS1 hcs hke HCG hB3 hV2 hk hklt
            obtain ⟨wq, rfl⟩ : ∃ x, x = wr := ⟨wr, rfl⟩
            have hFt : 0 ≤ (D r).tn := Nat.zero_le _
            have HFS : Hid (fst D first r = 0) := HF0
            have HCS : Hid (sz D first E r + crt D first r = S1) := by show sz D first E r + (if fst D first r = 0 then csum (D r).au (D r).cn else 0) = S1; rw [HF0.out, if_pos rfl, HSZ.out]; exact HS1.out
            have HS0 : Hid (r = 0 → S1 < 4194304) := fun h => absurd h hr0
            obtain ⟨m0, m1, m2⟩ := three_cells hV.b
            obtain ⟨p0, p1, p2, p3, p4⟩ := four_cells' hV.p
            have hszq := hV.size
            go_wp2
            go_loopg [8, 14] ((D r).tn - 0) (fun g s e wy => wq = wy ∧ ∃ en s3 : Nat, 0 ≤ en ∧ en ≤ (D r).tn ∧ g = (D r).tn - en ∧ e = .int .i64 en ∧ s = .int .i64 s3 ∧ s3 = S1 + tsum (D r).xl 0 (en - 0) ∧ s3 ≤ 6000000 ∧ (0 < en → S1 + tsum (D r).xl 0 (en - 0 - 1) < 4194304))
            case atStart => exact ⟨rfl, 0, S1, Nat.le_refl _, hFt, rfl, rfl, rfl, by rw [Nat.sub_self]; rfl, by omega, fun h => absurd h (Nat.lt_irrefl _)⟩
            case round =>
              obtain ⟨rfl, en, s3, hFe, hee, rfl, rfl, rfl, hs3, hs3b, hit⟩ := hrel
              have HS3 : Hid (s3 = S1 + tsum (D r).xl 0 (en - 0)) := hs3
              have HIT : Hid (0 < en → S1 + tsum (D r).xl 0 (en - 0 - 1) < 4194304) := hit
              clear hs3 hit
              by_cases helt : en < (D r).tn
              · have hez : (en : Int) < ((D r).tn : Int) := by omega
                by_cases hsl4 : s3 < 4194304
                · have hs4z : (s3 : Int) < 4194304 := by omega
                  obtain ⟨bt, ot, hta, htx⟩ := hTx (by omega)
                  have gt : wq.cell? ⟨bt, ot + en, none⟩ = some (.slice ((D r).xa en) ((D r).xl en) ((D r).xc en)) := cell_later hV.below (cell_later hB (htx en helt))
                  have hxl := hgd.xl en helt
                  have HTA : Hid ((D r).ta = some ⟨bt, ot, none⟩) := hta
                  rw [hta] at m1 ⊢
                  clear htx hta
                  go_wp2
                  rw [← HTA.out]
                  go_roundg ((D r).tn - (en + 1))
                  case measure => go_light; omega
                  case rel =>
                    go_light
                    refine ⟨rfl, en + 1, s3 + ((D r).xl en + 9), by omega, by omega, rfl, by simp, by go_num, ?_, by omega, fun _ => ?_⟩
                    · rw [show en + 1 - 0 = (en - 0) + 1 from by omega, tsum, HS3.out, show 0 + (en - 0) = en from by omega]; omega
                    · rw [show en + 1 - 0 - 1 = en - 0 from by omega, ← HS3.out]; exact hsl4
                · have hs4z : ¬ ((s3 : Int) < 4194304) := by omega
                  have HE : Ends D first r E en s3 := ends_of HFS.out HCS.out HS0.out HS3.out hFe hee (fun _ => by omega) HIT.out
                  have t1 : (en : Int) < ((D r).tn : Int) := by omega
                  have HD : Hid (Pieces D nb first (r + 1) (upd E r en)) := hgo.stop hlt HE (.inl (by omega))
                  obtain ⟨pta, hsl, hptr⟩ := slice_tx (D r).ta (D r).tn (D r).tc 0 en 0 en (D r).tc (by simp) (by simp) (by simp) hFe hee hgd.tc
                  have HRd : Hid (Rd w pta (en - 0) (fun t => xv (D r) (0 + t))) := hptr w _ hTx
                  clear hptr HE hgo
                  go_wp2_with (at_builtin; refine wpList_append_own _ rfl (.tmp 97) (.tmp 99) 31 rfl w.heap.size 40 i0 (.agg #[.int .u64 0, .int .u64 0, .slice none 0 0, .slice none 0 0]) 4 64 Try.underlying31 hi hz0 hy1 hy2 rfl (by decide) u7 r xs rfl ?q7_0 ⟨wq.heap.size, 0, none⟩ 1 1 [.int .u64 (IntKind.u64.wrap (index + (r : Int))), .int .u64 0, .slice pta en (D r).tc, (.slice (D r).ca (D r).cn (D r).cc)] rfl ?q7_1 ?q7_2 ?q7_3 ?q7_4 ?q7_5 ?q7_6 ?_)
                  case q7_0 => exact own_after hV hown _ _
                  case q7_3 => simp [Value.oneCell']
                  case q7_4 => unfold maxLen; omega
                  case q7_5 => omega
                  case q7_6 => have := hB.size; simp; omega
                  intro v' w1 hown' hgrow _
                  obtain ⟨n1, hBN⟩ := after_append hV hown hB hgrow
                  have HPC : Hid (∀ j, j < r + 1 → PCell D first index (upd E r en) w (xs ++ [.int .u64 (IntKind.u64.wrap (index + (r : Int))), .int .u64 0, .slice pta en (D r).tc, (.slice (D r).ca (D r).cn (D r).cc)]) j) := pcell_new hown.1 HXS.out (by rw [HFS.out]; exact HRd.out) (rfl) (by first | (rw [HFS.out]; done) | (rw [HFS.out]; rfl)) (by first | (rw [HFS.out]; done) | (rw [HFS.out]; rfl) | (rw [HFS.out]; simp)) ((if_pos HFS.out).symm)
                  clear hgrow hsl hown m0 m1 m2 p0 p1 p2 p3 p4
                  obtain ⟨pa, pc, hv, hP⟩ := own_pieces hown' HPC.out hBN
                  rw [hv]
                  clear hv hown'
                  go_wp2
                  go_ret
                  exact ⟨pa, r + 1, pc, upd E r en, rfl, HD.out, hP, hBN⟩
              · have hez : ¬ ((en : Int) < ((D r).tn : Int)) := by omega
                have HE : Ends D first r E en s3 := ends_of HFS.out HCS.out HS0.out HS3.out hFe hee (fun h => absurd h helt) HIT.out
                by_cases hsl4 : 4194304 ≤ s3
                · skip
                  have t1 : ¬ ((en : Int) < ((D r).tn : Int)) := by omega
                  have t2 : (4194304 : Int) ≤ (s3 : Int) := by omega
                  have HD : Hid (Pieces D nb first (r + 1) (upd E r en)) := hgo.stop hlt HE (.inr (by omega))
                  obtain ⟨pta, hsl, hptr⟩ := slice_tx (D r).ta (D r).tn (D r).tc 0 en 0 en (D r).tc (by simp) (by simp) (by simp) hFe hee hgd.tc
                  have HRd : Hid (Rd w pta (en - 0) (fun t => xv (D r) (0 + t))) := hptr w _ hTx
                  clear hptr HE hgo
                  go_wp2_with (at_builtin; refine wpList_append_own _ rfl (.tmp 97) (.tmp 99) 31 rfl w.heap.size 40 i0 (.agg #[.int .u64 0, .int .u64 0, .slice none 0 0, .slice none 0 0]) 4 64 Try.underlying31 hi hz0 hy1 hy2 rfl (by decide) u7 r xs rfl ?q8_0 ⟨wq.heap.size, 0, none⟩ 1 1 [.int .u64 (IntKind.u64.wrap (index + (r : Int))), .int .u64 0, .slice pta en (D r).tc, (.slice (D r).ca (D r).cn (D r).cc)] rfl ?q8_1 ?q8_2 ?q8_3 ?q8_4 ?q8_5 ?q8_6 ?_)
                  case q8_0 => exact own_after hV hown _ _
                  case q8_3 => simp [Value.oneCell']
                  case q8_4 => unfold maxLen; omega
                  case q8_5 => omega
                  case q8_6 => have := hB.size; simp; omega
                  intro v' w1 hown' hgrow _
                  obtain ⟨n1, hBN⟩ := after_append hV hown hB hgrow
                  have HPC : Hid (∀ j, j < r + 1 → PCell D first index (upd E r en) w (xs ++ [.int .u64 (IntKind.u64.wrap (index + (r : Int))), .int .u64 0, .slice pta en (D r).tc, (.slice (D r).ca (D r).cn (D r).cc)]) j) := pcell_new hown.1 HXS.out (by rw [HFS.out]; exact HRd.out) (rfl) (by first | (rw [HFS.out]; done) | (rw [HFS.out]; rfl)) (by first | (rw [HFS.out]; done) | (rw [HFS.out]; rfl) | (rw [HFS.out]; simp)) ((if_pos HFS.out).symm)
                  clear hgrow hsl hown m0 m1 m2 p0 p1 p2 p3 p4
                  obtain ⟨pa, pc, hv, hP⟩ := own_pieces hown' HPC.out hBN
                  rw [hv]
                  clear hv hown'
                  go_wp2
                  go_ret
                  exact ⟨pa, r + 1, pc, upd E r en, rfl, HD.out, hP, hBN⟩
                · skip
                  have t1 : ¬ ((en : Int) < ((D r).tn : Int)) := by omega
                  have t2 : decide ((4194304 : Int) ≤ (s3 : Int)) = false := decide_eq_false (by omega)
                  have t3 : ((4194304 : Int) ≤ (s3 : Int)) = False := eq_false (by omega)
                  have HD : Hid (Going D nb first (r + 1) (upd E r en)) := hgo.step hlt HE (by omega) (by omega)
                  clear hsl4
                  have HSZ2 : Hid (sz D first (upd E r en) (r + 1) = s3) := HE.sz
                  obtain ⟨pta, hsl, hptr⟩ := slice_tx (D r).ta (D r).tn (D r).tc 0 en 0 en (D r).tc (by simp) (by simp) (by simp) hFe hee hgd.tc
                  have HRd : Hid (Rd w pta (en - 0) (fun t => xv (D r) (0 + t))) := hptr w _ hTx
                  clear hptr HE hgo
                  go_wp2_with (at_builtin; refine wpList_append_own _ rfl (.tmp 97) (.tmp 99) 31 rfl w.heap.size 40 i0 (.agg #[.int .u64 0, .int .u64 0, .slice none 0 0, .slice none 0 0]) 4 64 Try.underlying31 hi hz0 hy1 hy2 rfl (by decide) u7 r xs rfl ?q9_0 ⟨wq.heap.size, 0, none⟩ 1 1 [.int .u64 (IntKind.u64.wrap (index + (r : Int))), .int .u64 0, .slice pta en (D r).tc, (.slice (D r).ca (D r).cn (D r).cc)] rfl ?q9_1 ?q9_2 ?q9_3 ?q9_4 ?q9_5 ?q9_6 ?_)
                  case q9_0 => exact own_after hV hown _ _
                  case q9_3 => simp [Value.oneCell']
                  case q9_4 => unfold maxLen; omega
                  case q9_5 => omega
                  case q9_6 => have := hB.size; simp; omega
                  intro v' w1 hown' hgrow _
                  obtain ⟨n1, hBN⟩ := after_append hV hown hB hgrow
                  have HPC : Hid (∀ j, j < r + 1 → PCell D first index (upd E r en) w (xs ++ [.int .u64 (IntKind.u64.wrap (index + (r : Int))), .int .u64 0, .slice pta en (D r).tc, (.slice (D r).ca (D r).cn (D r).cc)]) j) := pcell_new hown.1 HXS.out (by rw [HFS.out]; exact HRd.out) (rfl) (by first | (rw [HFS.out]; done) | (rw [HFS.out]; rfl)) (by first | (rw [HFS.out]; done) | (rw [HFS.out]; rfl) | (rw [HFS.out]; simp)) ((if_pos HFS.out).symm)
                  clear hgrow hsl hown m0 m1 m2 p0 p1 p2 p3 p4
                  go_wp2
                  go_roundg (nb - (r + 1))
                  case measure => go_light; omega
                  case rel => go_light; exact ⟨r + 1, s3, upd E r en, _, by omega, rfl, by simp, rfl, HSZ2.out, HD.out, hown', HPC.out, hBN⟩
    · have hrz : ¬ ((r : Int) < (nb : Int)) := by omega
      obtain rfl : r = nb := by omega
      obtain ⟨pa, pc, hv, hP⟩ := own_pieces hown hxs hB
      rw [hv]
      clear hv hown hxs
      go_wp2
      go_ret
      exact ⟨pa, r, pc, E, rfl, hgo.done, hP, hB⟩

theorem pieces_any (ba : Option Addr) (BB off nb cap : Nat) (D : Nat → Blk) (index : Int) (first : Nat) (w : World) (hc : Chain w BB off nb D) (hba : 0 < nb → ba = some ⟨BB, off, none⟩) (hnb : nb ≤ 65536) :
    Calls Try.prog 13 #[.slice ba nb cap, .int .u64 index, .int .u64 (first : Int)] w (PostPieces D nb index first w) := by
  have HBA : Hid (0 < nb → ba = some ⟨BB, off, none⟩) := hba
  clear hba
  go_enter Try.func13, Try.ntmps13
  go_wp2_with fail
  refine (pieces21 ba BB off nb cap D index first _ hc HBA.out hnb).mono ?_
  rintro e w' ⟨pa, m, pc, E, rfl, h1, h2, h3⟩
  have HH : Hid (Pieces D nb first m E ∧ PRd w' pa m D first index E ∧ Below w.heap.size w w') := ⟨h1, h2, h3⟩
  clear h1 h2 h3
  go_wp2_with fail
  go_ret
  exact ⟨pa, m, pc, E, rfl, HH.out⟩
end Go.Proofs.Qxb6001044a
