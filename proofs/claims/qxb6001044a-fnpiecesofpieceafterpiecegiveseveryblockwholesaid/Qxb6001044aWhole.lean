import Derived.Test.Qxb6001044aStops
namespace Go.Proofs.Qxb6001044a
open Go.RowKit

theorem cnt_mono (D : Nat → Blk) : ∀ {r r' : Nat}, r ≤ r' → cnt D r ≤ cnt D r'
  | r, 0, h => by
    have h0 : r = 0 := by omega
    rw [h0]
    exact Nat.le_refl _
  | r, r' + 1, h => by
    by_cases e : r = r' + 1
    · subst e; exact Nat.le_refl _
    · have := cnt_mono D (r := r) (r' := r') (by omega)
      rw [cnt]; omega

/-- How far the peer has come. -/
def far (D : Nat → Blk) (b f : Nat) : Nat := b + cnt D b + f

theorem far_le {D : Nat → Blk} {n b f : Nat} (hb : b ≤ n) (hf : b < n → f ≤ (D b).tn) (hn : b = n → f = 0) : far D b f ≤ n + cnt D n := by
  unfold far
  by_cases e : b = n
  · subst e; have := hn rfl; omega
  · have h1 := cnt_mono D (r := b + 1) (r' := n) (by omega)
    have h2 := hf (by omega)
    rw [cnt] at h1
    omega

/-- What holds of the peer's place (bb, ff) when k of the m pieces from (b, f) on are taken. -/
def Place (D : Nat → Blk) (b a m : Nat) (E : Nat → Nat) (k bb ff : Nat) : Prop :=
  (k < m ∧ bb = b + k ∧ ff = fst (fun r => D (b + r)) a k) ∨
  (k = m ∧ ((E (m - 1) = (D (b + (m - 1))).tn ∧ bb = b + m ∧ ff = 0) ∨ (E (m - 1) < (D (b + (m - 1))).tn ∧ bb = b + (m - 1) ∧ ff = E (m - 1))))

theorem place_full {D : Nat → Blk} {b a m : Nat} {E : Nat → Nat} {k : Nat} (hk : k < m) (hE : E k = (D (b + k)).tn) : Place D b a m E (k + 1) (b + k + 1) 0 := by
  by_cases e : k + 1 < m
  · exact .inl ⟨e, by omega, by unfold fst; rw [if_neg (by omega)]⟩
  · have hkm : m - 1 = k := by omega
    refine .inr ⟨by omega, .inl ⟨by rw [hkm]; exact hE, by omega, rfl⟩⟩

theorem place_cut {D : Nat → Blk} {b a m : Nat} {E : Nat → Nat} {k : Nat} (hk : k + 1 = m) (hE : E k < (D (b + k)).tn) : Place D b a m E (k + 1) (b + k) (E k) := by
  have hkm : m - 1 = k := by omega
  refine .inr ⟨hk, .inr ⟨by rw [hkm]; exact hE, by omega, by rw [hkm]⟩⟩

/-- One answer brings the peer on. -/
theorem progress {D : Nat → Blk} {n b f a m : Nat} {E : Nat → Nat} {bb ff : Nat} (hP : Pieces (fun r => D (b + r)) (n - b) a m E) (hb : b < n) (ha : min a (D b).tn = f) (h : Place D b a m E m bb ff) :
    bb ≤ n ∧ (bb < n → ff ≤ (D bb).tn) ∧ (bb = n → ff = 0) ∧ far D b f + 1 ≤ far D bb ff := by
  have hm : 0 < m := hP.pos (by omega)
  have hle := hP.le
  have hf : f ≤ (D b).tn := by omega
  have hc1 : cnt D (b + 1) = cnt D b + (D b).tn := rfl
  rcases h with ⟨h, _⟩ | ⟨_, ⟨hE, rfl, rfl⟩ | ⟨hE, rfl, rfl⟩⟩
  · exact absurd h (Nat.lt_irrefl _)
  · have h1 := cnt_mono D (r := b + 1) (r' := b + m) (by omega)
    refine ⟨by omega, fun _ => Nat.zero_le _, fun _ => rfl, ?_⟩
    unfold far
    omega
  · refine ⟨by omega, fun _ => Nat.le_of_lt hE, fun h => by omega, ?_⟩
    unfold far
    by_cases e : m = 1
    · subst e
      have h2 := hP.prog hm
      have h3 := hP.fe 0 hm
      have h4 : fst (fun r => D (b + r)) a 0 = f := by unfold fst; rw [if_pos rfl]; exact ha
      rw [h4] at h2 h3
      simp only [Nat.sub_self, Nat.add_zero] at hE h2 ⊢
      have : E 0 ≠ f := fun h => by have := h2 h; omega
      omega
    · have h1 := cnt_mono D (r := b + 1) (r' := b + (m - 1)) (by omega)
      omega

theorem idx_add (index : Int) (b k : Nat) : idx (IntKind.u64.wrap (index + (b : Int))) k = IntKind.u64.wrap (index + ((b + k : Nat) : Int)) := by
  unfold idx
  rw [IntKind.wrap_u64, IntKind.wrap_u64, IntKind.wrap_u64]
  omega

/-- The two variables of an inner round: the piece and the block. -/
structure Vars2 (wo wq : World) (vp vb : Array Value) : Prop where
  p : wq.heap[wo.heap.size]? = some (.cells vp 40 (0, 0))
  b : wq.heap[wo.heap.size + 1]? = some (.cells vb 38 (0, 0))
  below : Below wo.heap.size wo wq

theorem Vars2.start (wo : World) (vp vb : Array Value) : Vars2 wo ((wo.alloc (.cells vp 40)).alloc (.cells vb 38)) vp vb := by
  refine ⟨?_, ?_, ((Below.refl _ _).alloc (Nat.le_refl _) _).alloc (by simp) _⟩
  · rw [Deep.blk_alloc_lt _ _ _ (by simp), Deep.blk_alloc_new]
  · have := Deep.blk_alloc_new (wo.alloc (.cells vp 40)) (.cells vb 38)
    rwa [Deep.nblk_alloc] at this

theorem place_start {D : Nat → Blk} {b a m f : Nat} {E : Nat → Nat} (hm : 0 < m) (ha : min a (D b).tn = f) : Place D b a m E 0 b f :=
  .inl ⟨hm, rfl, by unfold fst; rw [if_pos rfl]; exact ha.symm⟩

set_option maxHeartbeats 8000000 in
set_option maxRecDepth 100000 in
theorem walk3 (a1 a2 a3 : Option Addr) (n1 c1 n2 c2 n3 c3 : Nat) (z1 z2 : Nat → Nat) (s : Nat → ByteArray) (index : Int) (first : Nat) (w : World) (h1 : Rd w a1 n1 (vU16 z1)) (h2 : Rd w a2 n2 (vU16 z2)) (h3 : Rd w a3 n3 (str s))
    (hz1 : ∀ i, i < n1 → z1 i ≤ 65535) (hz2 : ∀ i, i < n2 → z2 i ≤ 65535) (hs : ∀ i, i < n3 → (s i).size ≤ 9223372036854775807) (hn1 : a1 = none → n1 = 0) (hn2 : a2 = none → n2 = 0) (hn3 : a3 = none → n3 = 0) :
    Calls Try.prog 3 #[.slice a1 n1 c1, .slice a2 n2 c2, .slice a3 n3 c3, .int .u64 index, .int .u64 (first : Int)] w (Fin w) := by
  have HZ1 : Hid (∀ i, i < n1 → z1 i ≤ 65535) := hz1
  have HZ2 : Hid (∀ i, i < n2 → z2 i ≤ 65535) := hz2
  have HS : Hid (∀ i, i < n3 → (s i).size ≤ 9223372036854775807) := hs
  have HN : Hid ((a1 = none → n1 = 0) ∧ (a2 = none → n2 = 0) ∧ (a3 = none → n3 = 0)) := ⟨hn1, hn2, hn3⟩
  clear hz1 hz2 hs hn1 hn2 hn3
  go_enter Try.func3, Try.ntmps3
  go_wp2_with fail
  refine (zz8_any a1 a2 a3 n1 c1 n2 c2 n3 c3 s index first _ h3 HS.out).mono ?_
  rintro e w' ⟨tb, rfl, rfl⟩
  cases tb
  · go_wp2_with fail
    go_ret
    exact ⟨rfl, Below.refl _ _⟩
  go_wp2_with fail
  refine (big_any a1 a2 a3 n1 c1 n2 c2 n3 c3 z1 s _ h1 h3 HZ1.out HS.out).mono ?_
  rintro e w' ⟨tb, rfl, hb, rfl⟩
  cases tb
  case true =>
    clear hb
    go_wp2_with fail
    go_ret
    exact ⟨rfl, Below.refl _ _⟩
  obtain ⟨b1, b2, b3, hbs⟩ := hb rfl
  have HBS : Hid (∀ i, i < n3 → (s i).size ≤ 1048576) := hbs
  clear hb hbs
  go_wp2_with fail
  refine (clone16_any a1 n1 c1 z1 _ h1 HN.out.1 (by omega)).mono ?_
  rintro e wA ⟨x1, rfl, r1, _, bA⟩
  go_wp2_with fail
  refine (clone16_any a2 n2 c2 z2 _ (h2.mono bA) HN.out.2.1 (by omega)).mono ?_
  rintro e wB ⟨x2, rfl, r2, _, bB⟩
  go_wp2_with fail
  refine (cloneS_any a3 n3 c3 s _ ((h3.mono bA).mono bB) HN.out.2.2 (by omega)).mono ?_
  rintro e wC ⟨x3, rfl, r3, _, bC⟩
  go_wp2_with fail
  refine (build_any x1 x2 x3 n1 n1 n2 n2 n3 n3 z1 z2 s _ ((r1.mono bB).mono bC) (r2.mono bC) r3 b1 b2 b3 HZ1.out HZ2.out HBS.out).mono ?_
  rintro e wD ⟨BB, D, rfl, hch, hcnt, bD⟩
  have hB0 : Below w.heap.size w wD := ((bA.trans (bB.mono bA.size)).trans (bC.mono (Nat.le_trans bA.size bB.size))).trans (bD.mono (Nat.le_trans bA.size (Nat.le_trans bB.size bC.size)))
  clear h1 h2 h3 r1 r2 r3 bA bB bC bD
  by_cases h0 : n2 = 0
  · have hz : ((n2 : Int) == 0) = true := beq_iff_eq.2 (by omega)
    subst h0
    go_wp2_with fail
    refine (pieces_any (some ⟨BB, 0, none⟩) BB 0 0 0 D index first _ hch (fun _ => rfl) (by omega)).mono ?_
    rintro e wP ⟨pa, m, pc, E, rfl, hP, hR, bP⟩
    have hm0 : m = 0 := by have := hP.le; omega
    subst hm0
    have hB1 : Below w.heap.size w wP := hB0.trans (bP.mono hB0.size)
    clear hP hR
    go_wp2_with fail
    go_ret
    exact ⟨by simp, hB1⟩
  · have hz : ((n2 : Int) == 0) = false := beq_eq_false_iff_ne.2 (by omega)
    have hz2 : (0 : Int) < (n2 : Int) := by omega
    have hg0 := hch.good 0 (by omega)
    have htn0 := hg0.tn
    have k1 : wD.cell? ⟨BB, 1, none⟩ = some (.slice (D 0).ta (D 0).tn (D 0).tc) := by have h := hch.c1 0 (by omega); simpa using h
    go_wp2_with (go_at_call 14; refine (clip_any (first : Int) (D 0).tn _ (by omega) (by omega)).mono ?_; rintro e w' ⟨rfl, rfl⟩)
    have HCNT : Hid (cnt D n2 ≤ n1) := hcnt
    obtain ⟨lim, hlim⟩ : ∃ lim : Nat, (n1 : Int) + (n2 : Int) + 1 = (lim : Int) := ⟨n1 + n2 + 1, by omega⟩
    have HLIM : Hid (n1 + n2 + 1 = lim) := by show n1 + n2 + 1 = lim; omega
    rw [hlim]
    clear hlim hcnt k1 htn0 hg0
    go_loopg [13, 14, 15] (n2 + cnt D n2 - far D 0 (min first (D 0).tn)) (fun g bv fv cv wx => ∃ b f c : Nat, b ≤ n2 ∧ (b < n2 → f ≤ (D b).tn) ∧ (b = n2 → f = 0) ∧ c ≤ far D b f ∧ (c = 0 → b = 0 ∧ f = min first (D 0).tn) ∧ g = n2 + cnt D n2 - far D b f ∧ bv = .int .i64 b ∧ fv = .int .i64 f ∧ cv = .int .i64 c ∧ Below wD.heap.size wD wx)
    case atStart => exact ⟨0, min first (D 0).tn, 0, Nat.zero_le _, fun _ => Nat.min_le_right _ _, fun h => by omega, Nat.zero_le _, fun _ => ⟨rfl, rfl⟩, rfl, rfl, rfl, rfl, Below.refl _ _⟩
    case round =>
      obtain ⟨b, f, c, hb, hf, hfn, hcf, hc0, rfl, rfl, rfl, rfl, hBx⟩ := hrel
      have hchx := (hch.mono hBx)
      by_cases hblt : b < n2
      · have hbz : (b : Int) < (n2 : Int) := by omega
        have hgb := hchx.good b hblt
        have htb := hgb.tn
        have hfb := hf hblt
        have hfar := far_le hb hf hfn
        have HC : Hid (c ≤ far D b f) := hcf
        have hcl : c + 1 ≤ lim := by have h1 := HCNT.out; have h2 := HLIM.out; omega
        have hlm : lim ≤ 200000 := by have h2 := HLIM.out; omega
        have HFAR : Hid (far D b f ≤ n2 + cnt D n2) := hfar
        have HFN : Hid (f ≤ (D b).tn) := hfb
        have t1 : decide ((lim : Int) < (c : Int) + 1) = false := decide_eq_false (by omega)
        have t2 : ((lim : Int) < (c : Int) + 1) = False := eq_false (by omega)
        have t3 : decide ((lim : Int) ≤ (c : Int)) = false := decide_eq_false (by omega)
        have t4 : ((lim : Int) ≤ (c : Int)) = False := eq_false (by omega)
        have hcb : Chain wr BB (b * 3) (n2 - b) (fun r => D (b + r)) := by have h := hchx.from b; rwa [Nat.zero_add] at h
        have hf65 : f ≤ 65536 := by omega
        clear hf hfn hcf hfar hfb hgb htb
        by_cases hcz : c = 0
        · have HA : Hid (min first (D b).tn = f) := by obtain ⟨h1, h2⟩ := hc0 hcz; show min first (D b).tn = f; rw [h1, h2]
          subst hcz
          clear hc0 t1 t2 t3 t4
          have t1 : decide ((lim : Int) < 1) = false := decide_eq_false (by omega)
          have t2 : ((lim : Int) < 1) = False := eq_false (by omega)
          have t3 : decide ((1 : Int) ≤ (lim : Int)) = true := decide_eq_true (by omega)
          have t4 : ((1 : Int) ≤ (lim : Int)) = True := eq_true (by omega)
          go_wp2_with fail
          refine (pieces_any (some ⟨BB, b * 3, none⟩) BB (b * 3) (n2 - b) (n2 - b) (fun r => D (b + r)) (IntKind.u64.wrap (index + (b : Int))) first _ hcb (fun _ => rfl) (by omega)).mono ?_
          rintro e wP ⟨pa, m, pc, E, rfl, hP, hR, bP⟩
          have hBP : Below wD.heap.size wD wP := hBx.trans (bP.mono hBx.size)
          have hmp : 0 < m := hP.pos (by omega)
          have hmle := hP.le
          have hm65 : m ≤ 65536 := by omega
          have hmz : ((m : Int) == 0) = false := beq_eq_false_iff_ne.2 (by omega)
          obtain ⟨pb, rfl, hpc⟩ := hR hmp
          have hchP := hch.mono hBP
          have HPC := (id hpc : Hid _)
          clear hR hpc bP hBx hcb hchx
          go_wp2_with fail
          go_loopg [13, 14, 19] m (fun g bv fv jv wx => ∃ k bb ff : Nat, k ≤ m ∧ Place D b first m E k bb ff ∧ g = m - k ∧ bv = .int .i64 bb ∧ fv = .int .i64 ff ∧ jv = .int .i64 k ∧ Below wP.heap.size wP wx)
          case atStart => exact ⟨0, b, f, Nat.zero_le _, place_start hmp HA.out, rfl, rfl, rfl, rfl, Below.refl _ _⟩
          case round =>
            obtain ⟨k, bb, F, hk, hpl, rfl, rfl, rfl, rfl, hBy⟩ := hrel
            by_cases hklt : k < m
            · have hkz : (k : Int) < (m : Int) := by omega
              obtain ⟨hbbk, hFF⟩ : bb = b + k ∧ F = fst (fun r => D (b + r)) first k := by
                rcases hpl with ⟨_, h1, h2⟩ | ⟨h1, _⟩
                · exact ⟨h1, h2⟩
                · omega
              have hbn : bb < n2 := by omega
              have hbbz : (bb : Int) < (n2 : Int) := by omega
              have hbz1 : decide ((n2 : Int) ≤ (bb : Int)) = false := decide_eq_false (by omega)
              have hbz2 : ((n2 : Int) ≤ (bb : Int)) = False := eq_false (by omega)
              obtain ⟨q0, q1, ⟨ta, tc, q2, hta⟩, q3⟩ := HPC.out k hklt
              have hfe := hP.fe k hklt
              have het := hP.et k hklt
              have hfl := hP.full k
              unfold pcert at q3
              rw [idx_add] at q0
              simp only [← hFF, ← hbbk] at q0 q1 q2 q3 hta hfe het hfl
              have hgd := hchP.good bb hbn
              have hSl := (hchP.slots bb hbn)
              have hTx := (hchP.txs bb hbn)
              have hT8 := (hchP.tx8 bb hbn)
              have htn := hgd.tn
              have HBK : Hid (bb = b + k) := hbbk
              have HFL : Hid (k + 1 < m → E k = (D bb).tn) := hfl
              obtain ⟨T, hT⟩ : ∃ T, E k - F = T := ⟨_, rfl⟩
              rw [hT] at q2 hta
              have HET : Hid (F + T = E k) := by show F + T = E k; omega
              have hFT : F + T ≤ (D bb).tn := by omega
              have hBy0 : Hid (Below wP.heap.size wP wP) := Below.refl _ _
              have g0 := cell_later hBy q0
              have g1 := cell_later hBy q1
              have g2 := cell_later hBy q2
              have g3 := cell_later hBy q3
              have k0 : ∀ o, (wr.alloc o).cell? ⟨BB, bb * 3, none⟩ = some (.int .u64 (D bb).rd) := fun o => by have h := cell_later ((hBy.alloc hBy.size o)) (hchP.c0 bb hbn); rwa [Nat.zero_add] at h
              have k1 : ∀ o, (wr.alloc o).cell? ⟨BB, bb * 3 + 1, none⟩ = some (.slice (D bb).ta (D bb).tn (D bb).tc) := fun o => by have h := cell_later ((hBy.alloc hBy.size o)) (hchP.c1 bb hbn); rwa [Nat.zero_add] at h
              have k2 : ∀ o, (wr.alloc o).cell? ⟨BB, bb * 3 + 2, none⟩ = some (.slice (D bb).ca (D bb).cn (D bb).cc) := fun o => by have h := cell_later ((hBy.alloc hBy.size o)) (hchP.c2 bb hbn); rwa [Nat.zero_add] at h
              obtain ⟨ix, hix⟩ : ∃ ix, IntKind.u64.wrap (index + (bb : Int)) = ix := ⟨_, rfl⟩
              clear q0 q1 q2 q3 hpl hbbk hFF hfe het hfl hT hix
              obtain ⟨wo, rfl⟩ : ∃ x, x = wr := ⟨wr, rfl⟩
              by_cases hF0 : F = 0
              · subst hF0
                rw [if_pos rfl] at g3
                have g1 : wo.cell? ⟨pb, k * 4 + 1, none⟩ = some (.int .u64 0) := g1
                have s1 : decide (((D bb).tn : Int) < (T : Int)) = false := decide_eq_false (by omega)
                have s2 : (((D bb).tn : Int) < (T : Int)) = False := eq_false (by omega)
                go_wp2_with fail
                obtain ⟨w2, hw2⟩ : ∃ x, x = (wo.alloc (.cells #[.int .u64 (IntKind.u64.wrap (index + (bb : Int))), .int .u64 0, .slice ta T tc, .slice (D bb).ca (D bb).cn (D bb).cc] 40)).alloc (.cells #[.int .u64 (D bb).rd, .slice (D bb).ta (D bb).tn (D bb).tc, .slice (D bb).ca (D bb).cn (D bb).cc] 38) := ⟨_, rfl⟩
                have hV : Vars2 wo w2 #[.int .u64 (IntKind.u64.wrap (index + (bb : Int))), .int .u64 0, .slice ta T tc, .slice (D bb).ca (D bb).cn (D bb).cc] #[.int .u64 (D bb).rd, .slice (D bb).ta (D bb).tn (D bb).tc, .slice (D bb).ca (D bb).cn (D bb).cc] := by rw [hw2]; exact Vars2.start _ _ _
                rw [← hw2]
                have hB2 : Below wP.heap.size wP w2 := hBy.trans (hV.below.mono hBy.size)
                refine (same_slots (D bb).ca (D bb).cn (D bb).cc (D bb).cc (D bb).au (D bb).ar w2 (hSl.mono hB2) (by have := hgd.cn; omega)).mono ?_
                rintro e w3 ⟨rfl, hq⟩
                have hB23 : Below w2.heap.size w2 w3 := by obtain ⟨q, rfl⟩ := hq; exact below_drewN (Below.refl _ _) q
                have hB3 : Below wP.heap.size wP w3 := hB2.trans (hB23.mono hB2.size)
                obtain ⟨p0, p1, p2, p3, p4⟩ := four_cells' hV.p
                obtain ⟨m0, m1, m2⟩ := three_cells hV.b
                have p0 := cell_later hB23 p0
                have p1 := cell_later hB23 p1
                have p2 := cell_later hB23 p2
                have p3 := cell_later hB23 p3
                have m0 := cell_later hB23 m0
                have m1 := cell_later hB23 m1
                have m2 := cell_later hB23 m2
                clear hq hw2 g0 g1 g2 g3 k0 k1 k2 p4 hV hB2 hB23 hSl hBy
                go_wp2_with fail
                go_loopg [22] T (fun g tv wy => ∃ i : Nat, i ≤ T ∧ g = T - i ∧ tv = .int .i64 i ∧ Below w3.heap.size w3 wy)
                case atStart => exact ⟨0, Nat.zero_le _, rfl, rfl, Below.refl _ _⟩
                case round =>
                  obtain ⟨i, hi, rfl, rfl, hBz⟩ := hrel
                  have p2 := cell_later hBz p2
                  have m1 := cell_later hBz m1
                  by_cases hilt : i < T
                  · have hiz : (i : Int) < (T : Int) := by omega
                    have hin : i < (D bb).tn := by omega
                    have hiz2 : (i : Int) < ((D bb).tn : Int) := by omega
                    obtain ⟨bt, ot, hta', htx⟩ := hta (by omega)
                    obtain ⟨bu, ou, htb', hux⟩ := hTx (by omega)
                    have gt : wr.cell? ⟨bt, ot + i, none⟩ = some (.slice ((D bb).xa (i)) ((D bb).xl (i)) ((D bb).xc (i))) := by have h := cell_later hBz (cell_later hB3 (cell_later hBy0.out (htx i hilt))); simpa [xv] using h
                    have gu : wr.cell? ⟨bu, ou + (i), none⟩ = some (.slice ((D bb).xa (i)) ((D bb).xl (i)) ((D bb).xc (i))) := cell_later hBz (cell_later hB3 (hux (i) hin))
                    have hx : (D bb).xl (i) ≤ 65535 := hgd.xl (i) hin
                    obtain ⟨z, hz8⟩ := hT8 (i) hin
                    have HS16 : Hid (∀ q, Calls Try.prog 16 #[.slice ((D bb).xa (i)) ((D bb).xl (i)) ((D bb).xc (i)), .slice ((D bb).xa (i)) ((D bb).xl (i)) ((D bb).xc (i))] (wr.drewN q) fun e w' => e = .returned (.bool true) ∧ ∃ r, w' = (wr.drewN q).drewN r) := fun q => by
                      have h1 := ((hz8.mono hB3).mono (below_drewN hBz q))
                      exact same_bytes _ _ _ _ _ z (wr.drewN q) h1 h1 (by omega)
                    have HTA : Hid (ta = some ⟨bt, ot, none⟩) := hta'
                    have HTB : Hid ((D bb).ta = some ⟨bu, ou, none⟩) := htb'
                    rw [hta'] at p2 ⊢
                    rw [htb'] at m1 ⊢
                    clear htx hta' hux htb' hz8
                    go_wp2_with fail
                    go_quiet ((go_at_call 16; exact Calls.quiet_of (HS16.out _)))
                    go_wp2_with fail
                    rw [← HTA.out, ← HTB.out]
                    go_roundg (T - (i + 1))
                    case measure => go_light; omega
                    case rel => go_light; exact ⟨i + 1, by omega, rfl, by simp, below_drewN hBz _⟩
                  · have hiz : ¬ ((i : Int) < (T : Int)) := by omega
                    have hBw : Below wP.heap.size wP wr := hB3.trans (hBz.mono hB3.size)
                    by_cases hfull : E k = (D bb).tn
                    · have hfe : ((T : Int) == ((D bb).tn : Int)) = true := beq_iff_eq.2 (by have := HET.out; omega)
                      have HFU : Hid (E k = (D (b + k)).tn) := by have h := HBK.out; show E k = (D (b + k)).tn; rw [← h]; exact hfull
                      clear hfull
                      go_wp2_with fail
                      go_roundg (m - (k + 1))
                      case measure => go_light; omega
                      case rel => go_light; exact ⟨k + 1, bb + 1, 0, by omega, by rw [HBK.out]; exact place_full hklt HFU.out, rfl, by simp, rfl, by simp, hBw⟩
                    · have hfe : ((T : Int) == ((D bb).tn : Int)) = false := beq_eq_false_iff_ne.2 (by have := HET.out; omega)
                      have hkm : k + 1 = m := by
                        by_cases h : k + 1 < m
                        · exact absurd (HFL.out h) hfull
                        · omega
                      have hmk : (m : Int) - 1 = (k : Int) := by omega
                      have HFU : Hid (E k < (D (b + k)).tn) := by have h := HBK.out; have h2 := HET.out; show E k < (D (b + k)).tn; rw [← h]; omega
                      have HKM : Hid (k + 1 = m) := hkm
                      clear hfull hkm
                      go_wp2_with fail
                      go_roundg (m - (k + 1))
                      case measure => go_light; omega
                      case rel => go_light; exact ⟨k + 1, b + k, E k, by omega, place_cut HKM.out HFU.out, rfl, by rw [HBK.out], by have h := HET.out; simp; omega, by simp, hBw⟩
              · have hFb : ((F : Int) == 0) = false := beq_eq_false_iff_ne.2 (by omega)
                rw [if_neg hF0] at g3
                have s1 : decide (((D bb).tn : Int) - (F : Int) < (T : Int)) = false := decide_eq_false (by omega)
                have s2 : (((D bb).tn : Int) - (F : Int) < (T : Int)) = False := eq_false (by omega)
                go_wp2_with fail
                obtain ⟨w2, hw2⟩ : ∃ x, x = (wo.alloc (.cells #[.int .u64 (IntKind.u64.wrap (index + (bb : Int))), .int .u64 (F : Int), .slice ta T tc, .slice none 0 0] 40)).alloc (.cells #[.int .u64 (D bb).rd, .slice (D bb).ta (D bb).tn (D bb).tc, .slice (D bb).ca (D bb).cn (D bb).cc] 38) := ⟨_, rfl⟩
                have hV : Vars2 wo w2 #[.int .u64 (IntKind.u64.wrap (index + (bb : Int))), .int .u64 (F : Int), .slice ta T tc, .slice none 0 0] #[.int .u64 (D bb).rd, .slice (D bb).ta (D bb).tn (D bb).tc, .slice (D bb).ca (D bb).cn (D bb).cc] := by rw [hw2]; exact Vars2.start _ _ _
                rw [← hw2]
                have hB2 : Below wP.heap.size wP w2 := hBy.trans (hV.below.mono hBy.size)
                obtain ⟨w3, hw3⟩ : ∃ x, x = w2 := ⟨_, rfl⟩
                subst hw3
                obtain ⟨p0, p1, p2, p3, p4⟩ := four_cells' hV.p
                obtain ⟨m0, m1, m2⟩ := three_cells hV.b
                have hB3 := hB2
                clear hw2 g0 g1 g2 g3 k0 k1 k2 p4 hV hB2 hSl hBy
                go_loopg [22] T (fun g tv wy => ∃ i : Nat, i ≤ T ∧ g = T - i ∧ tv = .int .i64 i ∧ Below w3.heap.size w3 wy)
                case atStart => exact ⟨0, Nat.zero_le _, rfl, rfl, Below.refl _ _⟩
                case round =>
                  obtain ⟨i, hi, rfl, rfl, hBz⟩ := hrel
                  have p2 := cell_later hBz p2
                  have m1 := cell_later hBz m1
                  by_cases hilt : i < T
                  · have hiz : (i : Int) < (T : Int) := by omega
                    have hin : F + i < (D bb).tn := by omega
                    have hiz2 : (F : Int) + (i : Int) < ((D bb).tn : Int) := by omega
                    obtain ⟨bt, ot, hta', htx⟩ := hta (by omega)
                    obtain ⟨bu, ou, htb', hux⟩ := hTx (by omega)
                    have gt : wr.cell? ⟨bt, ot + i, none⟩ = some (.slice ((D bb).xa (F + i)) ((D bb).xl (F + i)) ((D bb).xc (F + i))) := by have h := cell_later hBz (cell_later hB3 (cell_later hBy0.out (htx i hilt))); simpa [xv] using h
                    have gu : wr.cell? ⟨bu, ou + (F + i), none⟩ = some (.slice ((D bb).xa (F + i)) ((D bb).xl (F + i)) ((D bb).xc (F + i))) := cell_later hBz (cell_later hB3 (hux (F + i) hin))
                    have hx : (D bb).xl (F + i) ≤ 65535 := hgd.xl (F + i) hin
                    obtain ⟨z, hz8⟩ := hT8 (F + i) hin
                    have HS16 : Hid (∀ q, Calls Try.prog 16 #[.slice ((D bb).xa (F + i)) ((D bb).xl (F + i)) ((D bb).xc (F + i)), .slice ((D bb).xa (F + i)) ((D bb).xl (F + i)) ((D bb).xc (F + i))] (wr.drewN q) fun e w' => e = .returned (.bool true) ∧ ∃ r, w' = (wr.drewN q).drewN r) := fun q => by
                      have h1 := ((hz8.mono hB3).mono (below_drewN hBz q))
                      exact same_bytes _ _ _ _ _ z (wr.drewN q) h1 h1 (by omega)
                    have HTA : Hid (ta = some ⟨bt, ot, none⟩) := hta'
                    have HTB : Hid ((D bb).ta = some ⟨bu, ou, none⟩) := htb'
                    rw [hta'] at p2 ⊢
                    rw [htb'] at m1 ⊢
                    clear htx hta' hux htb' hz8
                    go_wp2_with fail
                    go_quiet ((go_at_call 16; exact Calls.quiet_of (HS16.out _)))
                    go_wp2_with fail
                    rw [← HTA.out, ← HTB.out]
                    go_roundg (T - (i + 1))
                    case measure => go_light; omega
                    case rel => go_light; exact ⟨i + 1, by omega, rfl, by simp, below_drewN hBz _⟩
                  · have hiz : ¬ ((i : Int) < (T : Int)) := by omega
                    have hBw : Below wP.heap.size wP wr := hB3.trans (hBz.mono hB3.size)
                    by_cases hfull : E k = (D bb).tn
                    · have hfe : ((F : Int) + (T : Int) == ((D bb).tn : Int)) = true := beq_iff_eq.2 (by have := HET.out; omega)
                      have HFU : Hid (E k = (D (b + k)).tn) := by have h := HBK.out; show E k = (D (b + k)).tn; rw [← h]; exact hfull
                      clear hfull
                      go_wp2_with fail
                      go_roundg (m - (k + 1))
                      case measure => go_light; omega
                      case rel => go_light; exact ⟨k + 1, bb + 1, 0, by omega, by rw [HBK.out]; exact place_full hklt HFU.out, rfl, by simp, rfl, by simp, hBw⟩
                    · have hfe : ((F : Int) + (T : Int) == ((D bb).tn : Int)) = false := beq_eq_false_iff_ne.2 (by have := HET.out; omega)
                      have hkm : k + 1 = m := by
                        by_cases h : k + 1 < m
                        · exact absurd (HFL.out h) hfull
                        · omega
                      have hmk : (m : Int) - 1 = (k : Int) := by omega
                      have HFU : Hid (E k < (D (b + k)).tn) := by have h := HBK.out; have h2 := HET.out; show E k < (D (b + k)).tn; rw [← h]; omega
                      have HKM : Hid (k + 1 = m) := hkm
                      clear hfull hkm
                      go_wp2_with fail
                      go_roundg (m - (k + 1))
                      case measure => go_light; omega
                      case rel => go_light; exact ⟨k + 1, b + k, E k, by omega, place_cut HKM.out HFU.out, rfl, by rw [HBK.out], by have h := HET.out; simp; omega, by simp, hBw⟩
            · have hkz : ¬ ((k : Int) < (m : Int)) := by omega
              obtain rfl : k = m := by omega
              obtain ⟨r1, r2, r3, r4⟩ := progress hP hblt HA.out hpl
              have r5 := far_le r1 r2 r3
              have HC2 : Hid (far D b f + 1 ≤ far D bb F) := r4
              have HR : Hid (bb ≤ n2 ∧ (bb < n2 → F ≤ (D bb).tn) ∧ (bb = n2 → F = 0) ∧ far D bb F ≤ n2 + cnt D n2) := ⟨r1, r2, r3, r5⟩
              clear r2 r3 r4 r5 hpl
              go_wp2_with fail
              go_roundg (n2 + cnt D n2 - far D bb F)
              case measure => go_light; have h1 := HC2.out; have h2 := HR.out.2.2.2; omega
              case rel =>
                go_light
                have h1 := HC2.out
                have h2 := HC.out
                exact ⟨bb, F, 0 + 1, HR.out.1, HR.out.2.1, HR.out.2.2.1, by omega, fun h => by omega, rfl, rfl, rfl, by simp, hBP.trans (hBy.mono hBP.size)⟩
        · have HA : Hid (min f (D b).tn = f) := by have h := HFN.out; show min f (D b).tn = f; omega
          have hcy : ((c : Int) + 1 == 1) = false := beq_eq_false_iff_ne.2 (by omega)
          clear hc0
          go_wp2_with fail
          refine (pieces_any (some ⟨BB, b * 3, none⟩) BB (b * 3) (n2 - b) (n2 - b) (fun r => D (b + r)) (IntKind.u64.wrap (index + (b : Int))) f _ hcb (fun _ => rfl) (by omega)).mono ?_
          rintro e wP ⟨pa, m, pc, E, rfl, hP, hR, bP⟩
          have hBP : Below wD.heap.size wD wP := hBx.trans (bP.mono hBx.size)
          have hmp : 0 < m := hP.pos (by omega)
          have hmle := hP.le
          have hm65 : m ≤ 65536 := by omega
          have hmz : ((m : Int) == 0) = false := beq_eq_false_iff_ne.2 (by omega)
          obtain ⟨pb, rfl, hpc⟩ := hR hmp
          have hchP := hch.mono hBP
          have HPC := (id hpc : Hid _)
          clear hR hpc bP hBx hcb hchx
          go_wp2_with fail
          go_loopg [13, 14, 19] m (fun g bv fv jv wx => ∃ k bb ff : Nat, k ≤ m ∧ Place D b f m E k bb ff ∧ g = m - k ∧ bv = .int .i64 bb ∧ fv = .int .i64 ff ∧ jv = .int .i64 k ∧ Below wP.heap.size wP wx)
          case atStart => exact ⟨0, b, f, Nat.zero_le _, place_start hmp HA.out, rfl, rfl, rfl, rfl, Below.refl _ _⟩
          case round =>
            obtain ⟨k, bb, F, hk, hpl, rfl, rfl, rfl, rfl, hBy⟩ := hrel
            by_cases hklt : k < m
            · have hkz : (k : Int) < (m : Int) := by omega
              obtain ⟨hbbk, hFF⟩ : bb = b + k ∧ F = fst (fun r => D (b + r)) f k := by
                rcases hpl with ⟨_, h1, h2⟩ | ⟨h1, _⟩
                · exact ⟨h1, h2⟩
                · omega
              have hbn : bb < n2 := by omega
              have hbbz : (bb : Int) < (n2 : Int) := by omega
              have hbz1 : decide ((n2 : Int) ≤ (bb : Int)) = false := decide_eq_false (by omega)
              have hbz2 : ((n2 : Int) ≤ (bb : Int)) = False := eq_false (by omega)
              obtain ⟨q0, q1, ⟨ta, tc, q2, hta⟩, q3⟩ := HPC.out k hklt
              have hfe := hP.fe k hklt
              have het := hP.et k hklt
              have hfl := hP.full k
              unfold pcert at q3
              rw [idx_add] at q0
              simp only [← hFF, ← hbbk] at q0 q1 q2 q3 hta hfe het hfl
              have hgd := hchP.good bb hbn
              have hSl := (hchP.slots bb hbn)
              have hTx := (hchP.txs bb hbn)
              have hT8 := (hchP.tx8 bb hbn)
              have htn := hgd.tn
              have HBK : Hid (bb = b + k) := hbbk
              have HFL : Hid (k + 1 < m → E k = (D bb).tn) := hfl
              obtain ⟨T, hT⟩ : ∃ T, E k - F = T := ⟨_, rfl⟩
              rw [hT] at q2 hta
              have HET : Hid (F + T = E k) := by show F + T = E k; omega
              have hFT : F + T ≤ (D bb).tn := by omega
              have hBy0 : Hid (Below wP.heap.size wP wP) := Below.refl _ _
              have g0 := cell_later hBy q0
              have g1 := cell_later hBy q1
              have g2 := cell_later hBy q2
              have g3 := cell_later hBy q3
              have k0 : ∀ o, (wr.alloc o).cell? ⟨BB, bb * 3, none⟩ = some (.int .u64 (D bb).rd) := fun o => by have h := cell_later ((hBy.alloc hBy.size o)) (hchP.c0 bb hbn); rwa [Nat.zero_add] at h
              have k1 : ∀ o, (wr.alloc o).cell? ⟨BB, bb * 3 + 1, none⟩ = some (.slice (D bb).ta (D bb).tn (D bb).tc) := fun o => by have h := cell_later ((hBy.alloc hBy.size o)) (hchP.c1 bb hbn); rwa [Nat.zero_add] at h
              have k2 : ∀ o, (wr.alloc o).cell? ⟨BB, bb * 3 + 2, none⟩ = some (.slice (D bb).ca (D bb).cn (D bb).cc) := fun o => by have h := cell_later ((hBy.alloc hBy.size o)) (hchP.c2 bb hbn); rwa [Nat.zero_add] at h
              obtain ⟨ix, hix⟩ : ∃ ix, IntKind.u64.wrap (index + (bb : Int)) = ix := ⟨_, rfl⟩
              clear q0 q1 q2 q3 hpl hbbk hFF hfe het hfl hT hix
              obtain ⟨wo, rfl⟩ : ∃ x, x = wr := ⟨wr, rfl⟩
              by_cases hF0 : F = 0
              · subst hF0
                rw [if_pos rfl] at g3
                have g1 : wo.cell? ⟨pb, k * 4 + 1, none⟩ = some (.int .u64 0) := g1
                have s1 : decide (((D bb).tn : Int) < (T : Int)) = false := decide_eq_false (by omega)
                have s2 : (((D bb).tn : Int) < (T : Int)) = False := eq_false (by omega)
                go_wp2_with fail
                obtain ⟨w2, hw2⟩ : ∃ x, x = (wo.alloc (.cells #[.int .u64 (IntKind.u64.wrap (index + (bb : Int))), .int .u64 0, .slice ta T tc, .slice (D bb).ca (D bb).cn (D bb).cc] 40)).alloc (.cells #[.int .u64 (D bb).rd, .slice (D bb).ta (D bb).tn (D bb).tc, .slice (D bb).ca (D bb).cn (D bb).cc] 38) := ⟨_, rfl⟩
                have hV : Vars2 wo w2 #[.int .u64 (IntKind.u64.wrap (index + (bb : Int))), .int .u64 0, .slice ta T tc, .slice (D bb).ca (D bb).cn (D bb).cc] #[.int .u64 (D bb).rd, .slice (D bb).ta (D bb).tn (D bb).tc, .slice (D bb).ca (D bb).cn (D bb).cc] := by rw [hw2]; exact Vars2.start _ _ _
                rw [← hw2]
                have hB2 : Below wP.heap.size wP w2 := hBy.trans (hV.below.mono hBy.size)
                refine (same_slots (D bb).ca (D bb).cn (D bb).cc (D bb).cc (D bb).au (D bb).ar w2 (hSl.mono hB2) (by have := hgd.cn; omega)).mono ?_
                rintro e w3 ⟨rfl, hq⟩
                have hB23 : Below w2.heap.size w2 w3 := by obtain ⟨q, rfl⟩ := hq; exact below_drewN (Below.refl _ _) q
                have hB3 : Below wP.heap.size wP w3 := hB2.trans (hB23.mono hB2.size)
                obtain ⟨p0, p1, p2, p3, p4⟩ := four_cells' hV.p
                obtain ⟨m0, m1, m2⟩ := three_cells hV.b
                have p0 := cell_later hB23 p0
                have p1 := cell_later hB23 p1
                have p2 := cell_later hB23 p2
                have p3 := cell_later hB23 p3
                have m0 := cell_later hB23 m0
                have m1 := cell_later hB23 m1
                have m2 := cell_later hB23 m2
                clear hq hw2 g0 g1 g2 g3 k0 k1 k2 p4 hV hB2 hB23 hSl hBy
                go_wp2_with fail
                go_loopg [22] T (fun g tv wy => ∃ i : Nat, i ≤ T ∧ g = T - i ∧ tv = .int .i64 i ∧ Below w3.heap.size w3 wy)
                case atStart => exact ⟨0, Nat.zero_le _, rfl, rfl, Below.refl _ _⟩
                case round =>
                  obtain ⟨i, hi, rfl, rfl, hBz⟩ := hrel
                  have p2 := cell_later hBz p2
                  have m1 := cell_later hBz m1
                  by_cases hilt : i < T
                  · have hiz : (i : Int) < (T : Int) := by omega
                    have hin : i < (D bb).tn := by omega
                    have hiz2 : (i : Int) < ((D bb).tn : Int) := by omega
                    obtain ⟨bt, ot, hta', htx⟩ := hta (by omega)
                    obtain ⟨bu, ou, htb', hux⟩ := hTx (by omega)
                    have gt : wr.cell? ⟨bt, ot + i, none⟩ = some (.slice ((D bb).xa (i)) ((D bb).xl (i)) ((D bb).xc (i))) := by have h := cell_later hBz (cell_later hB3 (cell_later hBy0.out (htx i hilt))); simpa [xv] using h
                    have gu : wr.cell? ⟨bu, ou + (i), none⟩ = some (.slice ((D bb).xa (i)) ((D bb).xl (i)) ((D bb).xc (i))) := cell_later hBz (cell_later hB3 (hux (i) hin))
                    have hx : (D bb).xl (i) ≤ 65535 := hgd.xl (i) hin
                    obtain ⟨z, hz8⟩ := hT8 (i) hin
                    have HS16 : Hid (∀ q, Calls Try.prog 16 #[.slice ((D bb).xa (i)) ((D bb).xl (i)) ((D bb).xc (i)), .slice ((D bb).xa (i)) ((D bb).xl (i)) ((D bb).xc (i))] (wr.drewN q) fun e w' => e = .returned (.bool true) ∧ ∃ r, w' = (wr.drewN q).drewN r) := fun q => by
                      have h1 := ((hz8.mono hB3).mono (below_drewN hBz q))
                      exact same_bytes _ _ _ _ _ z (wr.drewN q) h1 h1 (by omega)
                    have HTA : Hid (ta = some ⟨bt, ot, none⟩) := hta'
                    have HTB : Hid ((D bb).ta = some ⟨bu, ou, none⟩) := htb'
                    rw [hta'] at p2 ⊢
                    rw [htb'] at m1 ⊢
                    clear htx hta' hux htb' hz8
                    go_wp2_with fail
                    go_quiet ((go_at_call 16; exact Calls.quiet_of (HS16.out _)))
                    go_wp2_with fail
                    rw [← HTA.out, ← HTB.out]
                    go_roundg (T - (i + 1))
                    case measure => go_light; omega
                    case rel => go_light; exact ⟨i + 1, by omega, rfl, by simp, below_drewN hBz _⟩
                  · have hiz : ¬ ((i : Int) < (T : Int)) := by omega
                    have hBw : Below wP.heap.size wP wr := hB3.trans (hBz.mono hB3.size)
                    by_cases hfull : E k = (D bb).tn
                    · have hfe : ((T : Int) == ((D bb).tn : Int)) = true := beq_iff_eq.2 (by have := HET.out; omega)
                      have HFU : Hid (E k = (D (b + k)).tn) := by have h := HBK.out; show E k = (D (b + k)).tn; rw [← h]; exact hfull
                      clear hfull
                      go_wp2_with fail
                      go_roundg (m - (k + 1))
                      case measure => go_light; omega
                      case rel => go_light; exact ⟨k + 1, bb + 1, 0, by omega, by rw [HBK.out]; exact place_full hklt HFU.out, rfl, by simp, rfl, by simp, hBw⟩
                    · have hfe : ((T : Int) == ((D bb).tn : Int)) = false := beq_eq_false_iff_ne.2 (by have := HET.out; omega)
                      have hkm : k + 1 = m := by
                        by_cases h : k + 1 < m
                        · exact absurd (HFL.out h) hfull
                        · omega
                      have hmk : (m : Int) - 1 = (k : Int) := by omega
                      have HFU : Hid (E k < (D (b + k)).tn) := by have h := HBK.out; have h2 := HET.out; show E k < (D (b + k)).tn; rw [← h]; omega
                      have HKM : Hid (k + 1 = m) := hkm
                      clear hfull hkm
                      go_wp2_with fail
                      go_roundg (m - (k + 1))
                      case measure => go_light; omega
                      case rel => go_light; exact ⟨k + 1, b + k, E k, by omega, place_cut HKM.out HFU.out, rfl, by rw [HBK.out], by have h := HET.out; simp; omega, by simp, hBw⟩
              · have hFb : ((F : Int) == 0) = false := beq_eq_false_iff_ne.2 (by omega)
                rw [if_neg hF0] at g3
                have s1 : decide (((D bb).tn : Int) - (F : Int) < (T : Int)) = false := decide_eq_false (by omega)
                have s2 : (((D bb).tn : Int) - (F : Int) < (T : Int)) = False := eq_false (by omega)
                go_wp2_with fail
                obtain ⟨w2, hw2⟩ : ∃ x, x = (wo.alloc (.cells #[.int .u64 (IntKind.u64.wrap (index + (bb : Int))), .int .u64 (F : Int), .slice ta T tc, .slice none 0 0] 40)).alloc (.cells #[.int .u64 (D bb).rd, .slice (D bb).ta (D bb).tn (D bb).tc, .slice (D bb).ca (D bb).cn (D bb).cc] 38) := ⟨_, rfl⟩
                have hV : Vars2 wo w2 #[.int .u64 (IntKind.u64.wrap (index + (bb : Int))), .int .u64 (F : Int), .slice ta T tc, .slice none 0 0] #[.int .u64 (D bb).rd, .slice (D bb).ta (D bb).tn (D bb).tc, .slice (D bb).ca (D bb).cn (D bb).cc] := by rw [hw2]; exact Vars2.start _ _ _
                rw [← hw2]
                have hB2 : Below wP.heap.size wP w2 := hBy.trans (hV.below.mono hBy.size)
                obtain ⟨w3, hw3⟩ : ∃ x, x = w2 := ⟨_, rfl⟩
                subst hw3
                obtain ⟨p0, p1, p2, p3, p4⟩ := four_cells' hV.p
                obtain ⟨m0, m1, m2⟩ := three_cells hV.b
                have hB3 := hB2
                clear hw2 g0 g1 g2 g3 k0 k1 k2 p4 hV hB2 hSl hBy
                go_loopg [22] T (fun g tv wy => ∃ i : Nat, i ≤ T ∧ g = T - i ∧ tv = .int .i64 i ∧ Below w3.heap.size w3 wy)
                case atStart => exact ⟨0, Nat.zero_le _, rfl, rfl, Below.refl _ _⟩
                case round =>
                  obtain ⟨i, hi, rfl, rfl, hBz⟩ := hrel
                  have p2 := cell_later hBz p2
                  have m1 := cell_later hBz m1
                  by_cases hilt : i < T
                  · have hiz : (i : Int) < (T : Int) := by omega
                    have hin : F + i < (D bb).tn := by omega
                    have hiz2 : (F : Int) + (i : Int) < ((D bb).tn : Int) := by omega
                    obtain ⟨bt, ot, hta', htx⟩ := hta (by omega)
                    obtain ⟨bu, ou, htb', hux⟩ := hTx (by omega)
                    have gt : wr.cell? ⟨bt, ot + i, none⟩ = some (.slice ((D bb).xa (F + i)) ((D bb).xl (F + i)) ((D bb).xc (F + i))) := by have h := cell_later hBz (cell_later hB3 (cell_later hBy0.out (htx i hilt))); simpa [xv] using h
                    have gu : wr.cell? ⟨bu, ou + (F + i), none⟩ = some (.slice ((D bb).xa (F + i)) ((D bb).xl (F + i)) ((D bb).xc (F + i))) := cell_later hBz (cell_later hB3 (hux (F + i) hin))
                    have hx : (D bb).xl (F + i) ≤ 65535 := hgd.xl (F + i) hin
                    obtain ⟨z, hz8⟩ := hT8 (F + i) hin
                    have HS16 : Hid (∀ q, Calls Try.prog 16 #[.slice ((D bb).xa (F + i)) ((D bb).xl (F + i)) ((D bb).xc (F + i)), .slice ((D bb).xa (F + i)) ((D bb).xl (F + i)) ((D bb).xc (F + i))] (wr.drewN q) fun e w' => e = .returned (.bool true) ∧ ∃ r, w' = (wr.drewN q).drewN r) := fun q => by
                      have h1 := ((hz8.mono hB3).mono (below_drewN hBz q))
                      exact same_bytes _ _ _ _ _ z (wr.drewN q) h1 h1 (by omega)
                    have HTA : Hid (ta = some ⟨bt, ot, none⟩) := hta'
                    have HTB : Hid ((D bb).ta = some ⟨bu, ou, none⟩) := htb'
                    rw [hta'] at p2 ⊢
                    rw [htb'] at m1 ⊢
                    clear htx hta' hux htb' hz8
                    go_wp2_with fail
                    go_quiet ((go_at_call 16; exact Calls.quiet_of (HS16.out _)))
                    go_wp2_with fail
                    rw [← HTA.out, ← HTB.out]
                    go_roundg (T - (i + 1))
                    case measure => go_light; omega
                    case rel => go_light; exact ⟨i + 1, by omega, rfl, by simp, below_drewN hBz _⟩
                  · have hiz : ¬ ((i : Int) < (T : Int)) := by omega
                    have hBw : Below wP.heap.size wP wr := hB3.trans (hBz.mono hB3.size)
                    by_cases hfull : E k = (D bb).tn
                    · have hfe : ((F : Int) + (T : Int) == ((D bb).tn : Int)) = true := beq_iff_eq.2 (by have := HET.out; omega)
                      have HFU : Hid (E k = (D (b + k)).tn) := by have h := HBK.out; show E k = (D (b + k)).tn; rw [← h]; exact hfull
                      clear hfull
                      go_wp2_with fail
                      go_roundg (m - (k + 1))
                      case measure => go_light; omega
                      case rel => go_light; exact ⟨k + 1, bb + 1, 0, by omega, by rw [HBK.out]; exact place_full hklt HFU.out, rfl, by simp, rfl, by simp, hBw⟩
                    · have hfe : ((F : Int) + (T : Int) == ((D bb).tn : Int)) = false := beq_eq_false_iff_ne.2 (by have := HET.out; omega)
                      have hkm : k + 1 = m := by
                        by_cases h : k + 1 < m
                        · exact absurd (HFL.out h) hfull
                        · omega
                      have hmk : (m : Int) - 1 = (k : Int) := by omega
                      have HFU : Hid (E k < (D (b + k)).tn) := by have h := HBK.out; have h2 := HET.out; show E k < (D (b + k)).tn; rw [← h]; omega
                      have HKM : Hid (k + 1 = m) := hkm
                      clear hfull hkm
                      go_wp2_with fail
                      go_roundg (m - (k + 1))
                      case measure => go_light; omega
                      case rel => go_light; exact ⟨k + 1, b + k, E k, by omega, place_cut HKM.out HFU.out, rfl, by rw [HBK.out], by have h := HET.out; simp; omega, by simp, hBw⟩
            · have hkz : ¬ ((k : Int) < (m : Int)) := by omega
              obtain rfl : k = m := by omega
              obtain ⟨r1, r2, r3, r4⟩ := progress hP hblt HA.out hpl
              have r5 := far_le r1 r2 r3
              have HC2 : Hid (far D b f + 1 ≤ far D bb F) := r4
              have HR : Hid (bb ≤ n2 ∧ (bb < n2 → F ≤ (D bb).tn) ∧ (bb = n2 → F = 0) ∧ far D bb F ≤ n2 + cnt D n2) := ⟨r1, r2, r3, r5⟩
              clear r2 r3 r4 r5 hpl
              go_wp2_with fail
              go_roundg (n2 + cnt D n2 - far D bb F)
              case measure => go_light; have h1 := HC2.out; have h2 := HR.out.2.2.2; omega
              case rel =>
                go_light
                have h1 := HC2.out
                have h2 := HC.out
                exact ⟨bb, F, c + 1, HR.out.1, HR.out.2.1, HR.out.2.2.1, by omega, fun h => by omega, rfl, rfl, rfl, by simp, hBP.trans (hBy.mono hBP.size)⟩
      · have hbz : ¬ ((b : Int) < (n2 : Int)) := by omega
        have hBe : Below w.heap.size w wr := hB0.trans (hBx.mono hB0.size)
        clear hf hfn hcf hc0 hchx
        go_wp2_with fail
        go_ret
        exact ⟨rfl, hBe⟩
end Go.Proofs.Qxb6001044a
