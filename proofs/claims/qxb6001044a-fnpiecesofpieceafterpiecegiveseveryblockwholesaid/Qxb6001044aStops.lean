import Derived.Test.Qxb6001044aPieces
import Derived.Test.Qxb6001044aBuild
import Derived.Test.Qxb6001044aGuard
namespace Go.Proofs.Qxb6001044a
open Go.RowKit

/-- The law's end: true, and nothing that was there has turned. -/
def Fin (w : World) (e : Ending) (w' : World) : Prop := e = .returned (.bool true) ∧ Below w.heap.size w w'

theorem tsum_le (x : Nat → Nat) (a : Nat) : ∀ k, (∀ i, i < k → x (a + i) ≤ 65535) → tsum x a k ≤ k * 65544
  | 0, _ => Nat.le_refl _
  | k + 1, h => by
    have h1 := tsum_le x a k (fun i hi => h i (Nat.lt_succ_of_lt hi))
    have h2 := h k (Nat.lt_succ_self k)
    rw [tsum]; omega

/-- What the last item of the last piece counts. -/
def lastItem (D : Nat → Blk) (first : Nat) (E : Nat → Nat) (j : Nat) : Nat :=
  if fst D first j < E j then (D j).xl (E j - 1) + 9 else crt D first j

theorem last_item {D : Nat → Blk} {nb first m : Nat} {E : Nat → Nat} (h : Pieces D nb first m E) (hm : 0 < m) (hg : ∀ j, j < nb → Good (D j)) :
    lastItem D first E (m - 1) ≤ sz D first E m ∧ sz D first E m - lastItem D first E (m - 1) < 4194304 := by
  obtain ⟨j, rfl⟩ : ∃ j, m = j + 1 := ⟨m - 1, by omega⟩
  rw [Nat.add_sub_cancel]
  have hle := h.le
  have hsm := h.small j (by omega)
  have hfe := h.fe j (by omega)
  have hgj := hg j (by omega)
  have hcr : crt D first j ≤ 1048594 := by
    unfold crt
    split
    · have := csum_le (D j).au (D j).cn hgj.au
      have := hgj.cn
      have : (D j).cn * 1048594 ≤ 1 * 1048594 := Nat.mul_le_mul_right _ hgj.cn
      omega
    · omega
  unfold lastItem
  rw [sz]
  by_cases hlt : fst D first j < E j
  · rw [if_pos hlt]
    obtain ⟨k, hk⟩ : ∃ k, E j - fst D first j = k + 1 := ⟨E j - fst D first j - 1, by omega⟩
    have hit := h.item j (by omega) hlt
    rw [hk, Nat.add_sub_cancel] at hit
    rw [hk, tsum, show fst D first j + k = E j - 1 from by omega]
    rcases hit with hit | ⟨hj, hE⟩
    · omega
    · have hk0 : k = 0 := by omega
      subst hk0 hj
      simp only [tsum, sz] at hsm ⊢
      omega
  · rw [if_neg hlt, show E j - fst D first j = 0 from by omega, tsum]
    omega

theorem reach_end {D : Nat → Blk} {nb first m : Nat} {E : Nat → Nat} (h : Pieces D nb first m E) (hm : 0 < m) : (m = nb ∧ E (m - 1) = (D (m - 1)).tn) ∨ 4194304 ≤ sz D first E m := by
  have hle := h.le
  have het := h.et (m - 1) (by omega)
  by_cases e : m = nb
  · by_cases e2 : E (m - 1) = (D (m - 1)).tn
    · exact .inl ⟨e, e2⟩
    · have := h.stop (m - 1) (by omega) (by omega)
      rw [show m - 1 + 1 = m from by omega] at this
      exact .inr this
  · exact .inr (h.early (by omega))

theorem wrap_back (index : Int) (j : Nat) (hj : j < 18446744073709551616) : IntKind.u64.wrap (idx index j - index) = (j : Int) := by
  unfold idx
  rw [IntKind.wrap_u64, IntKind.wrap_u64]
  omega

set_option maxHeartbeats 8000000 in
set_option maxRecDepth 100000 in
theorem walk4 (a1 a2 a3 : Option Addr) (n1 c1 n2 c2 n3 c3 : Nat) (z1 z2 : Nat → Nat) (s : Nat → ByteArray) (index : Int) (first : Nat) (w : World) (h1 : Rd w a1 n1 (vU16 z1)) (h2 : Rd w a2 n2 (vU16 z2)) (h3 : Rd w a3 n3 (str s))
    (hz1 : ∀ i, i < n1 → z1 i ≤ 65535) (hz2 : ∀ i, i < n2 → z2 i ≤ 65535) (hs : ∀ i, i < n3 → (s i).size ≤ 9223372036854775807) (hn1 : a1 = none → n1 = 0) (hn2 : a2 = none → n2 = 0) (hn3 : a3 = none → n3 = 0) :
    Calls Try.prog 4 #[.slice a1 n1 c1, .slice a2 n2 c2, .slice a3 n3 c3, .int .u64 index, .int .u64 (first : Int)] w (Fin w) := by
  have HZ1 : Hid (∀ i, i < n1 → z1 i ≤ 65535) := hz1
  have HZ2 : Hid (∀ i, i < n2 → z2 i ≤ 65535) := hz2
  have HS : Hid (∀ i, i < n3 → (s i).size ≤ 9223372036854775807) := hs
  have HN : Hid ((a1 = none → n1 = 0) ∧ (a2 = none → n2 = 0) ∧ (a3 = none → n3 = 0)) := ⟨hn1, hn2, hn3⟩
  clear hz1 hz2 hs hn1 hn2 hn3
  go_enter Try.func4, Try.ntmps4
  go_wp2_with fail
  refine (zz17_any a1 a2 a3 n1 c1 n2 c2 n3 c3 s index first _ h3 HS.out).mono ?_
  rintro e w' ⟨tb, rfl, rfl⟩
  cases tb
  · go_wp2_with fail
    go_ret
    exact ⟨rfl, Below.refl _ _⟩
  go_wp2_with fail
  refine (big_any a1 a2 a3 n1 c1 n2 c2 n3 c3 z1 s _ h1 h3 HZ1.out HS.out).mono ?_
  rintro e w' ⟨tb, rfl, hb, rfl⟩
  cases tb
  case true =>
    clear hb
    go_wp2_with fail
    go_ret
    exact ⟨rfl, Below.refl _ _⟩
  obtain ⟨b1, b2, b3, hbs⟩ := hb rfl
  have HBS : Hid (∀ i, i < n3 → (s i).size ≤ 1048576) := hbs
  clear hb hbs
  go_wp2_with fail
  refine (clone16_any a1 n1 c1 z1 _ h1 HN.out.1 (by omega)).mono ?_
  rintro e wA ⟨x1, rfl, r1, _, bA⟩
  go_wp2_with fail
  refine (clone16_any a2 n2 c2 z2 _ (h2.mono bA) HN.out.2.1 (by omega)).mono ?_
  rintro e wB ⟨x2, rfl, r2, _, bB⟩
  go_wp2_with fail
  refine (cloneS_any a3 n3 c3 s _ ((h3.mono bA).mono bB) HN.out.2.2 (by omega)).mono ?_
  rintro e wC ⟨x3, rfl, r3, _, bC⟩
  go_wp2_with fail
  refine (build_any x1 x2 x3 n1 n1 n2 n2 n3 n3 z1 z2 s _ ((r1.mono bB).mono bC) (r2.mono bC) r3 b1 b2 b3 HZ1.out HZ2.out HBS.out).mono ?_
  rintro e wD ⟨BB, D, rfl, hch, hcnt, bD⟩
  have hB0 : Below w.heap.size w wD := ((bA.trans (bB.mono bA.size)).trans (bC.mono (Nat.le_trans bA.size bB.size))).trans (bD.mono (Nat.le_trans bA.size (Nat.le_trans bB.size bC.size)))
  clear h1 h2 h3 r1 r2 r3 bA bB bC bD hcnt
  go_wp2_with fail
  refine (pieces_any (some ⟨BB, 0, none⟩) BB 0 n2 n2 D index first _ hch (fun _ => rfl) b2).mono ?_
  rintro e wP ⟨pa, m, pc, E, rfl, hP, hR, bP⟩
  have hB1 : Below w.heap.size w wP := hB0.trans (bP.mono hB0.size)
  have hch1 := hch.mono bP
  clear hch bP hB0
  by_cases h0 : n2 = 0
  · have hm0 : m = 0 := by have := hP.le; omega
    have hz : ((n2 : Int) == 0) = true := beq_iff_eq.2 (by omega)
    have hmz : ((m : Int) == 0) = true := beq_iff_eq.2 (by omega)
    clear hm0 h0
    go_wp2_with fail
    go_ret
    refine ⟨?_, hB1⟩
    simp
  · have hmp : 0 < m := hP.pos (by omega)
    have hm65 : m ≤ 65536 := Nat.le_trans hP.le b2
    have hz : ((n2 : Int) == 0) = false := beq_eq_false_iff_ne.2 (by omega)
    have hmz : ((m : Int) == 0) = false := beq_eq_false_iff_ne.2 (by omega)
    obtain ⟨pb, rfl, hpc⟩ := hR hmp
    clear hR
    go_wp2_with fail
    go_loopg [14, 15] m (fun g t j wx => ∃ k : Nat, k ≤ m ∧ g = m - k ∧ j = .int .i64 k ∧ t = .int .u64 ((sz D first E k : Nat) : Int) ∧ Below wP.heap.size wP wx)
    case atStart => exact ⟨0, Nat.zero_le _, rfl, rfl, rfl, Below.refl _ _⟩
    case round =>
      obtain ⟨k, hk, rfl, rfl, rfl, hBx⟩ := hrel
      by_cases hklt : k < m
      · have hkz : (k : Int) < (m : Int) := by omega
        have hkn : k < n2 := Nat.lt_of_lt_of_le hklt hP.le
        obtain ⟨q0, q1, ⟨ta, tc, q2, hta⟩, q3⟩ := hpc k hklt
        have hgd := hch1.good k hkn
        have hSl := hch1.slots k hkn
        have hsm := hP.small k hklt
        have hfe := hP.fe k hklt
        have het := hP.et k hklt
        have htn := hgd.tn
        have HSZ : Hid (sz D first E (k + 1) = sz D first E k + crt D first k + tsum (D k).xl (fst D first k) (E k - fst D first k)) := rfl
        have HCR : Hid (crt D first k = if fst D first k = 0 then csum (D k).au (D k).cn else 0) := rfl
        unfold pcert at q3
        generalize hFg : fst D first k = F at *
        generalize hTg : E k - F = T at *
        generalize hS0 : sz D first E k = S0 at *
        have HS0 : Hid (sz D first E k = S0) := hS0
        have hxl : ∀ i, i < T → (D k).xl (F + i) ≤ 65535 := fun i hi => hgd.xl (F + i) (by omega)
        have HXL : Hid (∀ i, i < T → (D k).xl (F + i) ≤ 65535) := hxl
        have hT65 : T ≤ 65536 := by omega
        generalize hIg : idx index k = ix at *
        have g0 := cell_later hBx q0
        have g1 := cell_later hBx q1
        have g2 := cell_later hBx q2
        have g3 := cell_later hBx q3
        clear q0 q1 q2 q3 hFg hTg hS0 hIg hxl
        obtain ⟨wo, rfl⟩ : ∃ x, x = wr := ⟨wr, rfl⟩
        by_cases hF0 : F = 0
        · subst hF0
          rw [if_pos rfl] at g3
          have g1 : wo.cell? ⟨pb, k * 4 + 1, none⟩ = some (.int .u64 0) := g1
          go_wp2_with fail
          obtain ⟨w2, hw2⟩ : ∃ x, x = wo.alloc (.cells #[.int .u64 ix, .int .u64 0, .slice ta T tc, .slice (D k).ca (D k).cn (D k).cc] 40) := ⟨_, rfl⟩
          obtain ⟨p0, p1, p2, p3, p4⟩ := four_cells' (w := w2) (B := wo.heap.size) (by rw [hw2]; exact Deep.blk_alloc_new _ _)
          have hV2 : Below wo.heap.size wo w2 := by rw [hw2]; exact (Below.refl _ _).alloc (Nat.le_refl _) _
          have hV : Below wP.heap.size wP w2 := hBx.trans (hV2.mono hBx.size)
          rw [← hw2]
          clear hw2 g0 g1 g2 g3 p4
          go_loopg [14, 17] (D k).cn (fun g s c wy => w2 = wy ∧ ∃ i : Nat, i ≤ (D k).cn ∧ g = (D k).cn - i ∧ c = .int .i64 i ∧ s = .int .u64 ((S0 + csum (D k).au i : Nat) : Int))
          case atStart => exact ⟨rfl, 0, Nat.zero_le _, rfl, rfl, rfl⟩
          case round =>
            obtain ⟨rfl, i, hi, rfl, rfl, rfl⟩ := hrel
            have hcs := csum_le (D k).au i (fun c hc' => hgd.au c (by omega))
            have hcn1 := hgd.cn
            generalize hcg : csum (D k).au i = cs at hcs ⊢
            have HCG : Hid (csum (D k).au i = cs) := hcg
            have hcs2 : cs ≤ 1048594 := by omega
            clear hcg hcs
            by_cases hilt : i < (D k).cn
            · have hiz : (i : Int) < ((D k).cn : Int) := by omega
              obtain ⟨bs, os, hca, hsc⟩ := hSl (by omega)
              have gs := cell_later hV (hsc i hilt).1
              have hau := hgd.au i hilt
              have HCA : Hid ((D k).ca = some ⟨bs, os, none⟩) := hca
              rw [hca] at p3 ⊢
              clear hsc hca
              go_wp2_with fail
              rw [← HCA.out]
              go_roundg ((D k).cn - (i + 1))
              case measure => go_light; omega
              case rel => go_light; exact ⟨rfl, i + 1, by omega, rfl, by simp, by rw [csum, HCG.out]; go_num⟩
            · have hiz : ¬ ((i : Int) < ((D k).cn : Int)) := by omega
              have hiN : i = (D k).cn := by omega
              obtain ⟨S1, hS1⟩ : ∃ S1, S0 + cs = S1 := ⟨_, rfl⟩
              have HFIN : Hid (S1 + tsum (D k).xl 0 T = sz D first E (k + 1)) := by
                have h1 := HSZ.out
                have h2 : crt D first k = csum (D k).au (D k).cn := by rw [HCR.out]; simp
                have h3 : csum (D k).au (D k).cn = cs := by rw [← hiN]; exact HCG.out
                show S1 + tsum (D k).xl 0 T = sz D first E (k + 1)
                omega
              have hS1a : S1 ≤ S0 + 1048594 := by omega
              rw [hS1]
              clear hS1 hiN HCG hi hilt hSl
              have hS1b : S1 ≤ 6000000 := by omega
              go_wp2_with fail
              go_loopg [14, 18] T (fun g s t wy => w2 = wy ∧ ∃ i : Nat, i ≤ T ∧ g = T - i ∧ t = .int .i64 i ∧ s = .int .u64 ((S1 + tsum (D k).xl 0 i : Nat) : Int))
              case atStart => exact ⟨rfl, 0, Nat.zero_le _, rfl, rfl, rfl⟩
              case round =>
                obtain ⟨rfl, i, hi, rfl, rfl, rfl⟩ := hrel
                have hts := tsum_le (D k).xl 0 i (fun i' hi' => HXL.out i' (by omega))
                generalize htg : tsum (D k).xl 0 i = ts at hts ⊢
                have HTG : Hid (tsum (D k).xl 0 i = ts) := htg
                have htb : ts ≤ 4295491584 := by omega
                clear htg hts
                by_cases hilt : i < T
                · have hiz : (i : Int) < (T : Int) := by omega
                  obtain ⟨bt, ot, hta', htx⟩ := hta (by omega)
                  have gt : w2.cell? ⟨bt, ot + i, none⟩ = some (.slice ((D k).xa i) ((D k).xl i) ((D k).xc i)) := by have h := cell_later hV (htx i hilt); simpa [xv] using h
                  have hx : (D k).xl i ≤ 65535 := by simpa using HXL.out i hilt
                  have HTA : Hid (ta = some ⟨bt, ot, none⟩) := hta'
                  rw [hta'] at p2 ⊢
                  clear htx hta'
                  go_wp2_with fail
                  rw [← HTA.out]
                  go_roundg (T - (i + 1))
                  case measure => go_light; omega
                  case rel => go_light; exact ⟨rfl, i + 1, by omega, rfl, by simp, by rw [tsum, HTG.out]; simp only [Nat.zero_add]; go_num⟩
                · have hiz : ¬ ((i : Int) < (T : Int)) := by omega
                  have hiT : i = T := by omega
                  have HSZ2 : Hid (S1 + ts = sz D first E (k + 1)) := by rw [← HTG.out, hiT]; exact HFIN.out
                  clear hiT
                  go_wp2_with fail
                  go_roundg (m - (k + 1))
                  case measure => go_light; omega
                  case rel => go_light; exact ⟨k + 1, by omega, rfl, by simp, by rw [← HSZ2.out]; go_num, hBx.trans (hV2.mono hBx.size)⟩
        · have hFb : ((F : Int) == 0) = false := beq_eq_false_iff_ne.2 (by omega)
          rw [if_neg hF0] at g3
          go_wp2_with fail
          obtain ⟨w2, hw2⟩ : ∃ x, x = wo.alloc (.cells #[.int .u64 ix, .int .u64 (F : Int), .slice ta T tc, .slice none 0 0] 40) := ⟨_, rfl⟩
          obtain ⟨p0, p1, p2, p3, p4⟩ := four_cells' (w := w2) (B := wo.heap.size) (by rw [hw2]; exact Deep.blk_alloc_new _ _)
          have hV2 : Below wo.heap.size wo w2 := by rw [hw2]; exact (Below.refl _ _).alloc (Nat.le_refl _) _
          have hV : Below wP.heap.size wP w2 := hBx.trans (hV2.mono hBx.size)
          rw [← hw2]
          obtain ⟨S1, hS1⟩ : ∃ S1, S0 = S1 := ⟨_, rfl⟩
          have HFIN : Hid (S1 + tsum (D k).xl F T = sz D first E (k + 1)) := by
            have h1 := HSZ.out
            have h2 : crt D first k = 0 := by rw [HCR.out, if_neg hF0]
            show S1 + tsum (D k).xl F T = sz D first E (k + 1)
            omega
          have hS1a : S1 ≤ S0 + 1048594 := by omega
          rw [hS1]
          clear hS1 hw2 g0 g1 g2 g3 p4
          have hS1b : S1 ≤ 6000000 := by omega
          go_loopg [14, 18] T (fun g s t wy => w2 = wy ∧ ∃ i : Nat, i ≤ T ∧ g = T - i ∧ t = .int .i64 i ∧ s = .int .u64 ((S1 + tsum (D k).xl F i : Nat) : Int))
          case atStart => exact ⟨rfl, 0, Nat.zero_le _, rfl, rfl, rfl⟩
          case round =>
            obtain ⟨rfl, i, hi, rfl, rfl, rfl⟩ := hrel
            have hts := tsum_le (D k).xl F i (fun i' hi' => HXL.out i' (by omega))
            generalize htg : tsum (D k).xl F i = ts at hts ⊢
            have HTG : Hid (tsum (D k).xl F i = ts) := htg
            have htb : ts ≤ 4295491584 := by omega
            clear htg hts
            by_cases hilt : i < T
            · have hiz : (i : Int) < (T : Int) := by omega
              obtain ⟨bt, ot, hta', htx⟩ := hta (by omega)
              have gt : w2.cell? ⟨bt, ot + i, none⟩ = some (.slice ((D k).xa (F + i)) ((D k).xl (F + i)) ((D k).xc (F + i))) := cell_later hV (htx i hilt)
              have hx : (D k).xl (F + i) ≤ 65535 := HXL.out i hilt
              have HTA : Hid (ta = some ⟨bt, ot, none⟩) := hta'
              rw [hta'] at p2 ⊢
              clear htx hta'
              go_wp2_with fail
              rw [← HTA.out]
              go_roundg (T - (i + 1))
              case measure => go_light; omega
              case rel => go_light; exact ⟨rfl, i + 1, by omega, rfl, by simp, by rw [tsum, HTG.out]; go_num⟩
            · have hiz : ¬ ((i : Int) < (T : Int)) := by omega
              have hiT : i = T := by omega
              have HSZ2 : Hid (S1 + ts = sz D first E (k + 1)) := by rw [← HTG.out, hiT]; exact HFIN.out
              clear hiT
              go_wp2_with fail
              go_roundg (m - (k + 1))
              case measure => go_light; omega
              case rel => go_light; exact ⟨k + 1, by omega, rfl, by simp, by rw [← HSZ2.out]; go_num, hBx.trans (hV2.mono hBx.size)⟩
      · have hkz : ¬ ((k : Int) < (m : Int)) := by omega
        have hkm : k = m := by omega
        obtain ⟨j, hj⟩ : ∃ j, m = j + 1 := ⟨m - 1, by omega⟩
        have hjm : j < m := by omega
        have hjn : j < n2 := Nat.lt_of_lt_of_le hjm hP.le
        have hmj : (m : Int) - 1 = (j : Int) := by omega
        obtain ⟨q0, q1, ⟨ta, tc, q2, hta⟩, q3⟩ := hpc j hjm
        have hgd := hch1.good j hjn
        have hSl := (hch1.slots j hjn).mono hBx
        have hLI := last_item hP hmp hch1.good
        have hRE := reach_end hP hmp
        have hfe := hP.fe j hjm
        have het := hP.et j hjm
        have htn := hgd.tn
        have hsm := hP.small j hjm
        have hszl : sz D first E m = sz D first E j + crt D first j + tsum (D j).xl (fst D first j) (E j - fst D first j) := by rw [hj]; rfl
        have hcr : crt D first j = if fst D first j = 0 then csum (D j).au (D j).cn else 0 := rfl
        have hlid : lastItem D first E (m - 1) = if fst D first j < E j then (D j).xl (E j - 1) + 9 else crt D first j := by rw [hj]; rfl
        rw [show m - 1 = j from by omega] at hRE
        rw [hkm]
        unfold pcert at q3
        generalize hFg : fst D first j = F at *
        generalize hTg : E j - F = T at *
        generalize hSg : sz D first E m = S at *
        generalize hLg : lastItem D first E (m - 1) = Li at *
        obtain ⟨hL1, hL2⟩ := hLI
        have hge : decide ((n2 : Int) ≤ (j : Int)) = false := decide_eq_false (by omega)
        have hge2 : ((n2 : Int) ≤ (j : Int)) = False := eq_false (by omega)
        have hat : IntKind.u64.wrap (idx index j - index) = (j : Int) := wrap_back index j (by omega)
        generalize hIg : idx index j = ix at *
        have k0 : ∀ o, (wr.alloc o).cell? ⟨BB, j * 3, none⟩ = some (.int .u64 (D j).rd) := fun o => by have h := cell_later ((hBx.alloc hBx.size o)) (hch1.c0 j hjn); rwa [Nat.zero_add] at h
        have k1 : ∀ o, (wr.alloc o).cell? ⟨BB, j * 3 + 1, none⟩ = some (.slice (D j).ta (D j).tn (D j).tc) := fun o => by have h := cell_later ((hBx.alloc hBx.size o)) (hch1.c1 j hjn); rwa [Nat.zero_add] at h
        have k2 : ∀ o, (wr.alloc o).cell? ⟨BB, j * 3 + 2, none⟩ = some (.slice (D j).ca (D j).cn (D j).cc) := fun o => by have h := cell_later ((hBx.alloc hBx.size o)) (hch1.c2 j hjn); rwa [Nat.zero_add] at h
        have g0 := cell_later hBx q0
        have g1 := cell_later hBx q1
        have g2 := cell_later hBx q2
        have g3 := cell_later hBx q3
        have hta' := hta.mono hBx
        have hBe : Below w.heap.size w wr := hB1.trans (hBx.mono hB1.size)
        have HRE : Hid ((m = n2 ∧ E j = (D j).tn) ∨ 4194304 ≤ S) := hRE
        have HJ : Hid (m = j + 1) := hj
        have HTG : Hid (E j - F = T) := hTg
        have HLI : Hid (Li = if F < E j then (D j).xl (E j - 1) + 9 else crt D first j) := hlid
        have HCR : Hid (crt D first j = if F = 0 then csum (D j).au (D j).cn else 0) := hcr
        clear q0 q1 q2 q3 hta hFg hSg hIg hpc hch1 hP hRE hkm hk hklt hj hTg hLg hlid hcr hszl hsm
        by_cases hT0 : T = 0
        · subst hT0
          by_cases hF0 : F = 0
          · subst hF0
            rw [if_pos rfl] at g3
            have g1 : wr.cell? ⟨pb, j * 4 + 1, none⟩ = some (.int .u64 0) := g1
            have hLi : csum (D j).au (D j).cn = Li := by
              have h1 := HLI.out
              have h2 := HCR.out
              have h3 := HTG.out
              rw [if_neg (by omega), h2, if_pos rfl] at h1
              exact h1.symm
            have HLi : Hid (csum (D j).au (D j).cn = Li) := hLi
            clear hLi hta'
            go_wp2_with fail
            obtain ⟨w2, hw2⟩ : ∃ x, x = wr.alloc (.cells #[.int .u64 ix, .int .u64 0, .slice ta 0 tc, .slice (D j).ca (D j).cn (D j).cc] 40) := ⟨_, rfl⟩
            obtain ⟨p0, p1, p2, p3, p4⟩ := four_cells' (w := w2) (B := wr.heap.size) (by rw [hw2]; exact Deep.blk_alloc_new _ _)
            have hV2 : Below wr.heap.size wr w2 := by rw [hw2]; exact (Below.refl _ _).alloc (Nat.le_refl _) _
            have hs2 : w2.heap.size = wr.heap.size + 1 := by rw [hw2]; simp
            have k0 := k0 (.cells #[.int .u64 ix, .int .u64 0, .slice ta 0 tc, .slice (D j).ca (D j).cn (D j).cc] 40)
            have k1 := k1 (.cells #[.int .u64 ix, .int .u64 0, .slice ta 0 tc, .slice (D j).ca (D j).cn (D j).cc] 40)
            have k2 := k2 (.cells #[.int .u64 ix, .int .u64 0, .slice ta 0 tc, .slice (D j).ca (D j).cn (D j).cc] 40)
            rw [← hw2] at k0 k1 k2 ⊢
            have hBe2 : Below w.heap.size w w2 := hBe.trans (hV2.mono hBe.size)
            clear hw2 g0 g1 g2 g3 p4
            go_loopg [20, 21] (D j).cn (fun g s c wy => w2 = wy ∧ ∃ i : Nat, i ≤ (D j).cn ∧ g = (D j).cn - i ∧ c = .int .i64 i ∧ s = .int .u64 ((csum (D j).au i : Nat) : Int))
            case atStart => exact ⟨rfl, 0, Nat.zero_le _, rfl, rfl, rfl⟩
            case round =>
              obtain ⟨rfl, i, hi, rfl, rfl, rfl⟩ := hrel
              have hcs := csum_le (D j).au i (fun c hc' => hgd.au c (by omega))
              have hcn1 := hgd.cn
              generalize hcg : csum (D j).au i = cs at hcs ⊢
              have HCG : Hid (csum (D j).au i = cs) := hcg
              have hcs2 : cs ≤ 1048594 := by omega
              clear hcg hcs
              by_cases hilt : i < (D j).cn
              · have hiz : (i : Int) < ((D j).cn : Int) := by omega
                obtain ⟨bs, os, hca, hsc⟩ := hSl (by omega)
                have gs := cell_later hV2 (hsc i hilt).1
                have hau := hgd.au i hilt
                have HCA : Hid ((D j).ca = some ⟨bs, os, none⟩) := hca
                rw [hca] at p3 ⊢
                clear hsc hca
                go_wp2_with fail
                rw [← HCA.out]
                go_roundg ((D j).cn - (i + 1))
                case measure => go_light; omega
                case rel => go_light; exact ⟨rfl, i + 1, by omega, rfl, by simp, by rw [csum, HCG.out]; go_num⟩
              · have hiz : ¬ ((i : Int) < ((D j).cn : Int)) := by omega
                have hcL : cs = Li := by rw [← HCG.out, show i = (D j).cn from by omega]; exact HLi.out
                rw [hcL]
                clear hcL HCG hcs2
                go_wp2_with fail
                all_goals
                  (go_ret
                   refine ⟨?_, hBe2.alloc hBe2.size _⟩
                   first
                     | rfl
                     | (have h4 : 4194304 ≤ S := by
                          rcases HRE.out with ⟨h5, h6⟩ | h
                          · have h7 := HTG.out
                            have h8 := HJ.out
                            exfalso
                            omega
                          · exact h
                        have h9 : decide ((4194304 : Int) ≤ (S : Int)) = true := decide_eq_true (by omega)
                        simp [h9])
                     | (have h4 : 4194304 ≤ S := by
                          rcases HRE.out with ⟨h5, h6⟩ | h
                          · have h7 := HTG.out
                            have h8 := HJ.out
                            exfalso
                            omega
                          · exact h
                        simp
                        omega))
          · have hFb : ((F : Int) == 0) = false := beq_eq_false_iff_ne.2 (by omega)
            rw [if_neg hF0] at g3
            have hLi : Li = 0 := by
              have h1 := HLI.out
              have h2 := HCR.out
              have h3 := HTG.out
              rw [if_neg (by omega), h2, if_neg hF0] at h1
              exact h1
            have hS5 : ((4194304 : Int) ≤ (S : Int)) = False := eq_false (by omega)
            have hS6 : decide ((4194304 : Int) ≤ (S : Int)) = false := decide_eq_false (by omega)
            have hleft : m = n2 ∧ E j = (D j).tn := by
              rcases HRE.out with h | h
              · exact h
              · exfalso; omega
            have hA : ((j : Int) == (n2 : Int) - 1) = true := beq_iff_eq.2 (by have := HJ.out; omega)
            have hBq : ((F : Int) == ((D j).tn : Int)) = true := beq_iff_eq.2 (by have := HTG.out; omega)
            have hS0 : ¬ ((S : Int) < 0) := by omega
            have hSb : S ≤ 4194303 := by omega
            clear hLi hta' hleft hL2 hL1 HRE HLI
            go_wp2_with fail
            go_ret
            exact ⟨rfl, (hBe.alloc hBe.size _).alloc (by have := hBe.size; simp; omega) _⟩

        · obtain ⟨t1, ht1⟩ : ∃ t1, T = t1 + 1 := ⟨T - 1, by omega⟩
          have hT1 : (T : Int) - 1 = (t1 : Int) := by omega
          have hTg := HTG.out
          obtain ⟨bt, ot, rfl, htx⟩ := hta' (by omega)
          have gt : ∀ o, (wr.alloc o).cell? ⟨bt, ot + t1, none⟩ = some (.slice ((D j).xa (F + t1)) ((D j).xl (F + t1)) ((D j).xc (F + t1))) := fun o => cell_later ((Below.refl _ _).alloc (Nat.le_refl _) o) (htx t1 (by omega))
          have hxl := hgd.xl (F + t1) (by omega)
          have hLi : (((D j).xl (F + t1) : Int) + 9) = (Li : Int) := by
            have hlid := HLI.out
            rw [if_pos (by omega)] at hlid
            rw [show F + t1 = E j - 1 from by omega]; omega
          have hTp : (0 : Int) < (T : Int) := by omega
          have HT1 : Hid (T = t1 + 1) := ht1
          have ht1b : t1 < 65536 := by omega
          have ht1c : (t1 : Int) < (T : Int) := by omega
          obtain ⟨ca', cn', cc', hC⟩ : ∃ ca' cn' cc', (if F = 0 then Value.slice (D j).ca (D j).cn (D j).cc else .slice none 0 0) = .slice ca' cn' cc' := by
            split
            · exact ⟨_, _, _, rfl⟩
            · exact ⟨_, _, _, rfl⟩
          rw [hC] at g3
          clear ht1 hTg htx hta' hT0 hC
          go_wp2_with fail
          all_goals
            (go_ret
             refine ⟨?_, (hBe.alloc hBe.size _).alloc (by have := hBe.size; simp; omega) _⟩
             first
               | rfl
               | (have h4 : 4194304 ≤ S := by
                    rcases HRE.out with ⟨h5, h6⟩ | h
                    · have h7 := HTG.out
                      have h8 := HJ.out
                      exfalso
                      omega
                    · exact h
                  have h9 : decide ((4194304 : Int) ≤ (S : Int)) = true := decide_eq_true (by omega)
                  simp [h9])
               | (have h4 : 4194304 ≤ S := by
                    rcases HRE.out with ⟨h5, h6⟩ | h
                    · have h7 := HTG.out
                      have h8 := HJ.out
                      exfalso
                      omega
                    · exact h
                  simp
                  omega))
end Go.Proofs.Qxb6001044a
