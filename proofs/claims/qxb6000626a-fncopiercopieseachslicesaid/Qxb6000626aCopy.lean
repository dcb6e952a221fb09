import Derived.Test.Qxb6000626aLib
namespace Go.Proofs.Qxb6000626a
open Go.RowKit

/-- w' is w but for block g. -/
structure Only (g : Nat) (w w' : World) : Prop where
  os : w'.os = w.os
  tape : w'.tape = w.tape
  output : w'.output = w.output
  size : w'.heap.size = w.heap.size
  block : ∀ k, k ≠ g → w'.heap[k]? = w.heap[k]?

theorem Only.below {g B : Nat} {w w' : World} (h : Only g w w') (hB : B ≤ g) : Below B w w' :=
  ⟨h.os, h.tape, h.output, Nat.le_of_eq h.size.symm, fun k hk => h.block k (by omega)⟩
theorem Only.refl (g : Nat) (w : World) : Only g w w := ⟨rfl, rfl, rfl, rfl, fun _ _ => rfl⟩
theorem Only.cell {g : Nat} {w w' : World} (h : Only g w w') {a : Addr} (ha : a.block ≠ g) : w'.cell? a = w.cell? a := World.cell?_of_block (w := w) (h.block _ ha)
theorem Only.frozen {g : Nat} {w w' : World} (h : Only g w w') {a : Addr} (ha : a.block ≠ g) : w'.frozen? a = w.frozen? a := World.frozen?_of_block (w := w) (h.block _ ha)

/-- 'copy(dst, src)', dst in a row of the call's own, the row's content told by its index. -/
theorem wpList_copy_row {P : Program} {w : World} {ops : Array Oper} {rest : List Oper} {o : Oper} {a : Act} {Q : Exit → Act → World → Prop} (hgd : o.guard = none) (d s : Operand) (dT sT : TypeId)
    (ho : o.op = .call { callee := .builtin .copy, args := #[d, s], argTypes := #[dT, sT] }) (elem : TypeId) (hu : P.underlying dT = some (.slice elem)) (hsz : (P.info? elem).map (·.size) = some 1)
    (dp sp : Option Addr) (dLen dCap sLen sCap : Nat) (hd : a.eval d = .slice dp dLen dCap) (hs : a.eval s = .slice sp sLen sCap)
    (g off n : Nat) (f : Nat → Value) (t : TypeId) (hg : w.rowIs g t n f) (cs : Nat → Value) (m : Nat) (hn : m = Nat.min sLen dLen)
    (hpos : 0 < m → dp = some ⟨g, off, none⟩ ∧ ∃ b o', sp = some ⟨b, o', none⟩ ∧ ∀ j, j < m → w.cell? ⟨b, o' + j, none⟩ = some (cs j))
    (hfit : off + m ≤ n) (h1 : ∀ j, (cs j).oneCell' = true)
    (h : ∀ w', Only g w w' → w'.rowIs g t n (fun j => if off ≤ j ∧ j < off + m then cs (j - off) else f j) → wpList P ops Q rest (a.put o.dst (goInt m)) w') :
    wpList P ops Q (o :: rest) a w := by
  by_cases h0 : m = 0
  · subst h0
    refine wpList_copy_nothing hgd d s dT sT ho elem hu hsz dp sp dLen dCap sLen sCap hd hs hn.symm ?_
    exact h w (Only.refl _ _) (hg.congr fun j _ => by rw [if_neg (by omega)])
  · obtain ⟨rfl, b, o', rfl, hsrc⟩ := hpos (by omega)
    obtain ⟨c, hc, hcn, hcf⟩ := hg
    have hl : ((List.range m).map cs).length = m := by simp
    have key := @wpList_copy_own P w ops rest o a Q hgd d s dT sT ho elem hu hsz g off dLen dCap ⟨b, o', none⟩ sLen sCap hd hs c t hc ((List.range m).map cs) (by rw [hl]; exact hn)
      (by
        intro j v hv
        have hj : j < m := by
          have := (List.getElem?_eq_some_iff.1 hv).1
          simpa using this
        rw [Addr.add_lit, hsrc j hj]
        simpa [hj] using hv)
      (by rw [hl]; omega) (by intro v hv; obtain ⟨j, _, rfl⟩ := List.mem_map.1 hv; exact h1 j)
    refine key ?_
    rw [hl]
    refine h _ ⟨rfl, rfl, rfl, by simp [World.setRow], fun k hk => setRow_other w g k _ (fun e => hk e)⟩ ⟨_, setRow_heap w g c _ t _ hc, by simp; omega, fun j hj => ?_⟩
    simp only [List.getElem?_toArray]
    by_cases c1 : j < off
    · rw [List.getElem?_append_left (by simp; omega), List.getElem?_take, if_pos c1, if_neg (by omega)]
      simpa using hcf j hj
    · rw [List.getElem?_append_right (by simp; omega)]
      have el : (c.toList.take off).length = off := by simp; omega
      rw [el]
      by_cases c2 : j < off + m
      · rw [List.getElem?_append_left (by simp; omega), if_pos ⟨by omega, c2⟩]
        have hj2 : j - off < m := by omega
        simp [hj2]
      · rw [List.getElem?_append_right (by simp; omega), hl, List.getElem?_drop, if_neg (by omega)]
        have : off + m + (j - off - m) = j := by omega
        rw [this]
        simpa using hcf j hj


theorem Try.size5 : (Try.prog.info? 5).map (·.size) = some 1 := by kernel_rfl

/-- A number among numbers, as a cell. -/
def bt (zs : List Int) (j : Nat) : Value := .int .u8 (zs.getD j 0)

theorem Rd.src {w : World} {a : Option Addr} {n : Nat} {zs : List Int} (h : Rd w a n zs) (hn : 0 < n) :
    ∃ b o', a = some ⟨b, o', none⟩ ∧ ∀ j, j < n → w.cell? ⟨b, o' + j, none⟩ = some (bt zs j) := h.2 hn

theorem Rd.of_row {w : World} {g o n m : Nat} {f : Nat → Value} {zs : List Int} (h : w.rowIs g 5 n f) (hl : zs.length = m) (hm : o + m ≤ n) (hf : ∀ j, j < m → f (o + j) = bt zs j) : Rd w (some ⟨g, o, none⟩) m zs :=
  ⟨hl, fun _ => ⟨g, o, rfl, fun j hj => (h.cell (by omega)).trans (congrArg some (hf j hj))⟩⟩

theorem two_cells {w : World} {B : Nat} {v0 v1 : Value} {t : TypeId} (h : w.heap[B]? = some (.cells #[v0, v1] t (0, 0))) :
    w.cell? ⟨B, 0, none⟩ = some v0 ∧ w.cell? ⟨B, 1, none⟩ = some v1 ∧ w.frozen? ⟨B, 0, none⟩ = false ∧ w.frozen? ⟨B, 1, none⟩ = false := by
  refine ⟨?_, ?_, ?_, ?_⟩ <;> simp [World.cell?, World.frozen?, h]

theorem three_blocks (w : World) (A B C : Obj) : (((w.alloc A).alloc B).alloc C).heap[w.heap.size]? = some A ∧ (((w.alloc A).alloc B).alloc C).heap[w.heap.size + 1]? = some B ∧ (((w.alloc A).alloc B).alloc C).heap[w.heap.size + 1 + 1]? = some C := by
  refine ⟨?_, ?_, ?_⟩
  · rw [Deep.blk_alloc_lt _ _ _ (by simp; omega), Deep.blk_alloc_lt _ _ _ (by simp), Deep.blk_alloc_new]
  · rw [Deep.blk_alloc_lt _ _ _ (by simp)]
    simpa using Deep.blk_alloc_new (w.alloc A) B
  · simpa using Deep.blk_alloc_new ((w.alloc A).alloc B) C

set_option maxHeartbeats 400000 in
theorem copyRow_some (a1 : Option Addr) (x2 : Addr) (n1 c1 n2 c2 : Nat) (z1 z2 : List Int) (w : World) (h1 : Rd w a1 n1 z1) (h2 : Rd w (some x2) n2 z2) (hn : n1 + n2 ≤ 1048576) :
    Calls Try.prog 26 #[.slice a1 n1 c1, .slice (some x2) n2 c2] w fun e w' => ∃ o2, e = .returned (.agg #[.slice (some ⟨w.heap.size + 1, 0, none⟩) n1 n1, .slice (some ⟨w.heap.size + 1, o2, none⟩) n2 n2]) ∧
      Below w.heap.size w w' ∧ Rd w' (some ⟨w.heap.size + 1, 0, none⟩) n1 z1 ∧ Rd w' (some ⟨w.heap.size + 1, o2, none⟩) n2 z2 := by
  have q22 : ∀ (w : World) (a : Option Addr) (n c n' c' : Nat), (binOp .neq 22 (.slice a n c) (.slice none n' c')).run Try.prog w = .ok (.bool (!a.isNone)) w := fun w a n c n' c' => run_neq_slice_nil_any w _ _ a n c n' c' Try.underlying22
  have hmk := run_make_row' (P := Try.prog) 22 5 (.int .u8 0) 1 Try.underlying22 Try.info5 rfl .i64 .i64 (n1 + n2) (by omega) (by omega)
  rw [show (((n1 + n2 : Nat)) : Int) = (n1 : Int) + (n2 : Int) from by omega] at hmk
  go_enter Try.func26, Try.ntmps26
  go_wp2_with (refine wpList_copy_row rfl (.tmp 21) (.tmp 22) 22 22 rfl 5 Try.underlying22 Try.size5 (some ⟨w.heap.size + 1, 0, none⟩) a1 n1 n1 n1 c1 rfl rfl (w.heap.size + 1) 0 (n1 + n2) (fun _ => .int .u8 0) 5 ?r1 (bt z1) n1 ?r2 ?r3 ?r4 ?r5 ?_)
  case r1 => exact (by simpa using (World.rowIs_made (w.alloc _) _ (n1 + n2) 5).alloc _)
  case r2 => exact (Nat.min_self n1).symm
  case r3 => exact (h1.mono ((((Below.refl _ _).alloc (Nat.le_refl _) _).alloc (by simp) _).alloc (by simp; omega) _)).src
  case r4 => omega
  case r5 => exact fun _ => rfl
  intro w1 hO1 hR1
  have hs1 : w1.heap.size = w.heap.size + 1 + 1 + 1 := by rw [hO1.size]; simp
  obtain ⟨t0, t1, t2⟩ := three_blocks w (Obj.cells #[Value.slice none 0 0, Value.slice none 0 0] 33) (Obj.cells (madeCells #[Value.int IntKind.u8 0] (n1 + n2)) 5) (Obj.cells #[Value.slice (some { block := w.heap.size + 1, off := 0 }) n1 n1, Value.slice none 0 0] 33)
  rw [← hO1.block _ (by omega)] at t0 t2
  obtain ⟨k0, k1, k2, k3⟩ := two_cells t0
  obtain ⟨k4, k5, k6, k7⟩ := two_cells t2
  clear t0 t1 t2 hmk
  by_cases hz : n2 = 0
  · subst hz
    go_wp2_with (refine wpList_copy_nothing rfl (.tmp 32) (.tmp 33) 22 22 rfl 5 Try.underlying22 Try.size5 (some ⟨w.heap.size + 1, 0, none⟩) (some x2) 0 0 0 c2 rfl rfl rfl ?_)
    refine bodyPost_ret (v := .agg #[.slice (some ⟨w.heap.size + 1, 0, none⟩) n1 n1, .slice (some ⟨w.heap.size + 1, 0, none⟩) 0 0]) (by simp [results, Try.results26, go_sem, k0, k1]) rfl ⟨_, rfl, ?_, ?_, ?_⟩
    · exact ((((((Below.refl _ _).alloc (Nat.le_refl _) _).alloc (by simp) _).alloc (by simp; omega) _).trans (hO1.below (by omega))).setCell (by simp; omega) _).setCell (by simp) _ |>.setCell (by simp) _
    · refine Rd.of_row (((hR1.setOther (by simp) _).setOther (by simp) _).setOther (by simp) _) h1.1 (by omega) fun j hj => ?_
      simp [hj]
    · exact ⟨h2.1, fun h => absurd h (Nat.lt_irrefl 0)⟩
  · go_wp2_with (refine wpList_copy_row rfl (.tmp 32) (.tmp 33) 22 22 rfl 5 Try.underlying22 Try.size5 (some ⟨w.heap.size + 1, n1, none⟩) (some x2) n2 n2 n2 c2 rfl rfl (w.heap.size + 1) n1 (n1 + n2) (fun j => if j < n1 then bt z1 j else Value.int IntKind.u8 0) 5 ?u1 (bt z2) n2 ?u2 ?u3 ?u4 ?u5 ?_)
    case u1 => exact (by simpa using hR1.setOther (by simp) _)
    case u2 => exact (Nat.min_self n2).symm
    case u3 =>
      have := (h2.mono (((((Below.refl _ _).alloc (Nat.le_refl _) _).alloc (by simp) _).alloc (by simp; omega) _).trans (hO1.below (by omega)) |>.setCell (p := ⟨w.heap.size + 1 + 1, 1, none⟩) (by simp; omega) (.slice (some ⟨w.heap.size + 1, n1, none⟩) n2 n2))).src
      simpa using this
    case u4 => omega
    case u5 => exact fun _ => rfl
    intro w2 hO2 hR2
    have hs2 : w2.heap.size = w.heap.size + 1 + 1 + 1 := by rw [hO2.size]; simp [hs1]
    have j0 : w2.cell? ⟨w.heap.size, 0, none⟩ = some (.slice none 0 0) := by rw [hO2.cell (a := ⟨w.heap.size, 0, none⟩) (by simp)]; simp [go_sem, k0]
    have j1 : w2.cell? ⟨w.heap.size, 1, none⟩ = some (.slice none 0 0) := by rw [hO2.cell (a := ⟨w.heap.size, 1, none⟩) (by simp)]; simp [go_sem, k1]
    have j2 : w2.frozen? ⟨w.heap.size, 0, none⟩ = false := by rw [hO2.frozen (a := ⟨w.heap.size, 0, none⟩) (by simp)]; simp [go_sem, k2]
    have j3 : w2.frozen? ⟨w.heap.size, 1, none⟩ = false := by rw [hO2.frozen (a := ⟨w.heap.size, 1, none⟩) (by simp)]; simp [go_sem, k3]
    have j4 : w2.cell? ⟨w.heap.size + 1 + 1, 0, none⟩ = some (.slice (some ⟨w.heap.size + 1, 0, none⟩) n1 n1) := by rw [hO2.cell (a := ⟨w.heap.size + 1 + 1, 0, none⟩) (by simp)]; simp [go_sem, k4]
    have j5 : w2.cell? ⟨w.heap.size + 1 + 1, 1, none⟩ = some (.slice (some ⟨w.heap.size + 1, n1, none⟩) n2 n2) := by rw [hO2.cell (a := ⟨w.heap.size + 1 + 1, 1, none⟩) (by simp)]; simp [go_sem, k5]
    clear k0 k1 k2 k3 k4 k5 k6 k7 hs1
    go_wp2
    refine bodyPost_ret (v := .agg #[.slice (some ⟨w.heap.size + 1, 0, none⟩) n1 n1, .slice (some ⟨w.heap.size + 1, n1, none⟩) n2 n2]) (by simp [results, Try.results26, go_sem, j0, j1]) rfl ⟨_, rfl, ?_, ?_, ?_⟩
    · exact ((((((Below.refl _ _).alloc (Nat.le_refl _) _).alloc (by simp) _).alloc (by simp; omega) _).trans (hO1.below (by omega))).setCell (by simp; omega) _).trans (hO2.below (by omega)) |>.setCell (by simp) _ |>.setCell (by simp) _
    · refine Rd.of_row ((hR2.setOther (by simp) _).setOther (by simp) _) h1.1 (by omega) fun j hj => ?_
      rw [Nat.zero_add, if_neg (by omega), if_pos hj]
    · refine Rd.of_row ((hR2.setOther (by simp) _).setOther (by simp) _) h2.1 (by omega) fun j hj => ?_
      rw [if_pos ⟨by omega, by omega⟩, Nat.add_sub_cancel_left]

set_option maxHeartbeats 400000 in
theorem copyRow_nil (a1 : Option Addr) (n1 c1 : Nat) (z1 : List Int) (w : World) (h1 : Rd w a1 n1 z1) (hn : n1 ≤ 1048576) :
    Calls Try.prog 26 #[.slice a1 n1 c1, .slice none 0 0] w fun e w' => e = .returned (.agg #[.slice (some ⟨w.heap.size + 1, 0, none⟩) n1 n1, .slice none 0 0]) ∧
      Below w.heap.size w w' ∧ Rd w' (some ⟨w.heap.size + 1, 0, none⟩) n1 z1 := by
  have q22 : ∀ (w : World) (a : Option Addr) (n c n' c' : Nat), (binOp .neq 22 (.slice a n c) (.slice none n' c')).run Try.prog w = .ok (.bool (!a.isNone)) w := fun w a n c n' c' => run_neq_slice_nil_any w _ _ a n c n' c' Try.underlying22
  have hmk := run_make_row' (P := Try.prog) 22 5 (.int .u8 0) 1 Try.underlying22 Try.info5 rfl .i64 .i64 n1 (by omega) (by omega)
  go_enter Try.func26, Try.ntmps26
  go_wp2_with (refine wpList_copy_row rfl (.tmp 21) (.tmp 22) 22 22 rfl 5 Try.underlying22 Try.size5 (some ⟨w.heap.size + 1, 0, none⟩) a1 n1 n1 n1 c1 rfl rfl (w.heap.size + 1) 0 n1 (fun _ => .int .u8 0) 5 ?r1 (bt z1) n1 ?r2 ?r3 ?r4 ?r5 ?_)
  case r1 => exact (by simpa using (World.rowIs_made (w.alloc _) _ n1 5).alloc _)
  case r2 => exact (Nat.min_self n1).symm
  case r3 => exact (h1.mono ((((Below.refl _ _).alloc (Nat.le_refl _) _).alloc (by simp) _).alloc (by simp; omega) _)).src
  case r4 => omega
  case r5 => exact fun _ => rfl
  intro w1 hO1 hR1
  have hs1 : w1.heap.size = w.heap.size + 1 + 1 + 1 := by rw [hO1.size]; simp
  obtain ⟨t0, t1, t2⟩ := three_blocks w (Obj.cells #[Value.slice none 0 0, Value.slice none 0 0] 33) (Obj.cells (madeCells #[Value.int IntKind.u8 0] n1) 5) (Obj.cells #[Value.slice (some { block := w.heap.size + 1, off := 0 }) n1 n1, Value.slice none 0 0] 33)
  rw [← hO1.block _ (by omega)] at t0 t2
  obtain ⟨k0, k1, k2, k3⟩ := two_cells t0
  obtain ⟨k4, k5, k6, k7⟩ := two_cells t2
  clear t0 t1 t2 hmk
  go_wp2
  refine bodyPost_ret (v := .agg #[.slice (some ⟨w.heap.size + 1, 0, none⟩) n1 n1, .slice none 0 0]) (by simp [results, Try.results26, go_sem, k0, k1]) rfl ⟨rfl, ?_, ?_⟩
  · exact ((((((Below.refl _ _).alloc (Nat.le_refl _) _).alloc (by simp) _).alloc (by simp; omega) _).trans (hO1.below (by omega))).setCell (by simp) _).setCell (by simp) _
  · refine Rd.of_row ((hR1.setOther (by simp) _).setOther (by simp) _) h1.1 (by omega) fun j hj => ?_
    simp [hj]

/-- As 'Rd', and the cells lie in a block from B on. -/
def RdF (B : Nat) (w : World) (a : Option Addr) (n : Nat) (zs : List Int) : Prop :=
  zs.length = n ∧ (0 < n → ∃ b o, B ≤ b ∧ a = some ⟨b, o, none⟩ ∧ ∀ i, i < n → w.cell? ⟨b, o + i, none⟩ = some (.int .u8 (zs.getD i 0)))

theorem RdF.rd {B : Nat} {w : World} {a : Option Addr} {n : Nat} {zs : List Int} (h : RdF B w a n zs) : Rd w a n zs :=
  ⟨h.1, fun hn => by obtain ⟨b, o, _, ha, hc⟩ := h.2 hn; exact ⟨b, o, ha, hc⟩⟩
theorem RdF.of {B g o : Nat} {w : World} {n : Nat} {zs : List Int} (h : Rd w (some ⟨g, o, none⟩) n zs) (hB : B ≤ g) : RdF B w (some ⟨g, o, none⟩) n zs :=
  ⟨h.1, fun hn => by
    obtain ⟨b, o', ha, hc⟩ := h.2 hn
    simp only [Option.some.injEq, Addr.mk.injEq, and_true] at ha
    obtain ⟨rfl, rfl⟩ := ha
    exact ⟨g, o, hB, rfl, hc⟩⟩
theorem RdF.zero (B : Nat) (w : World) (a : Option Addr) {zs : List Int} (h : zs.length = 0) : RdF B w a 0 zs := ⟨h, fun h => absurd h (Nat.lt_irrefl 0)⟩
theorem RdF.mono {B : Nat} {w w' : World} {a : Option Addr} {n : Nat} {zs : List Int} (h : RdF B w a n zs) (hb : Below w.heap.size w w') : RdF B w' a n zs :=
  ⟨h.1, fun hn => by obtain ⟨b, o, hB, ha, hc⟩ := h.2 hn; exact ⟨b, o, hB, ha, fun i hi => cell_later hb (hc i hi)⟩⟩
theorem RdF.less {B B' : Nat} {w : World} {a : Option Addr} {n : Nat} {zs : List Int} (h : RdF B w a n zs) (hB : B' ≤ B) : RdF B' w a n zs :=
  ⟨h.1, fun hn => by obtain ⟨b, o, h', ha, hc⟩ := h.2 hn; exact ⟨b, o, by omega, ha, hc⟩⟩
theorem RdF.setCell {B : Nat} {w : World} {a : Option Addr} {n : Nat} {zs : List Int} (h : RdF B w a n zs) {p : Addr} (hp : p.block < B) (v : Value) : RdF B (w.setCell p v) a n zs :=
  ⟨h.1, fun hn => by
    obtain ⟨b, o, hB, ha, hc⟩ := h.2 hn
    refine ⟨b, o, hB, ha, fun i hi => ?_⟩
    rw [World.cell?_setCell_other _ _ _ _ (fun e => by have := congrArg Addr.block e; simp at this; omega)]
    exact hc i hi⟩

/-- cloneBytes, whatever the slice. -/
theorem clone_any (a : Option Addr) (n c : Nat) (zs : List Int) (w : World) (hz : Rd w a n zs) (hnil : a = none → n = 0) (hn : n ≤ 1048576) :
    Calls Try.prog 10 #[.slice a n c] w fun e w' => ∃ x : Option Addr, e = .returned (.slice x n n) ∧ x.isNone = a.isNone ∧ (x = none → n = 0 ∧ n = 0) ∧ RdF w.heap.size w' x n zs ∧ Below w.heap.size w w' := by
  cases a with
  | none =>
    obtain rfl := hnil rfl
    refine (clone_nil 0 c w).mono ?_
    rintro e w1 ⟨rfl, rfl⟩
    exact ⟨none, rfl, rfl, fun _ => ⟨rfl, rfl⟩, RdF.zero _ _ _ hz.1, Below.refl _ _⟩
  | some x =>
    refine (clone_some x n c zs w hz hn).mono ?_
    rintro e w1 ⟨rfl, hc⟩
    refine ⟨_, rfl, rfl, fun h => by simp at h, RdF.of (Rd.of_row hc.row hz.1 (by omega) fun j hj => ?_) (Nat.le_refl _), hc.below⟩
    rw [Nat.zero_add, if_pos hj]; rfl

/-- copyRow, whatever the value. -/
theorem copyRow_any (a1 a2 : Option Addr) (n1 c1 n2 c2 : Nat) (z1 z2 : List Int) (w : World) (h1 : Rd w a1 n1 z1) (h2 : Rd w a2 n2 z2) (hnil : a2 = none → n2 = 0 ∧ c2 = 0) (hn : n1 + n2 ≤ 1048576) :
    Calls Try.prog 26 #[.slice a1 n1 c1, .slice a2 n2 c2] w fun e w' => ∃ x1 x2 : Option Addr, e = .returned (.agg #[.slice x1 n1 n1, .slice x2 n2 n2]) ∧
      Below w.heap.size w w' ∧ RdF (w.heap.size + 1) w' x1 n1 z1 ∧ RdF (w.heap.size + 1) w' x2 n2 z2 ∧ x2.isNone = a2.isNone := by
  cases a2 with
  | none =>
    obtain ⟨rfl, rfl⟩ := hnil rfl
    refine (copyRow_nil a1 n1 c1 z1 w h1 (by omega)).mono ?_
    rintro e w1 ⟨rfl, hb, hr⟩
    exact ⟨_, _, rfl, hb, RdF.of hr (Nat.le_refl _), RdF.zero _ _ _ h2.1, rfl⟩
  | some x2 =>
    refine (copyRow_some a1 x2 n1 c1 n2 c2 z1 z2 w h1 h2 hn).mono ?_
    rintro e w1 ⟨o2, rfl, hb, hr1, hr2⟩
    exact ⟨_, _, rfl, hb, RdF.of hr1 (Nat.le_refl _), RdF.of hr2 (Nat.le_refl _), rfl⟩

/-- ZZCopyRow: the key's copy, and the value's, which is nil just where the value is. -/
theorem zzCopyRow (a1 a2 : Option Addr) (n1 c1 n2 c2 : Nat) (z1 z2 : List Int) (w : World) (h1 : Rd w a1 n1 z1) (h2 : Rd w a2 n2 z2) (hnil : a2 = none → n2 = 0 ∧ c2 = 0) (hn : n1 + n2 ≤ 1048576) :
    Calls Try.prog 18 #[.slice a1 n1 c1, .slice a2 n2 c2] w fun e w' => ∃ x1 x2 : Option Addr, e = .returned (.agg #[.slice x1 n1 n1, .slice x2 n2 n2]) ∧
      Below w.heap.size w w' ∧ RdF w.heap.size w' x1 n1 z1 ∧ RdF w.heap.size w' x2 n2 z2 ∧ x2.isNone = a2.isNone := by
  have H : Hid (a2 = none → n2 = 0 ∧ c2 = 0) := hnil
  clear hnil
  have hb0 : ∀ o, Below w.heap.size w (w.alloc o) := fun o => (Below.refl _ _).alloc (Nat.le_refl _) _
  go_enter Try.func18, Try.ntmps18
  go_wp2_with (go_at_call 26; refine (copyRow_any a1 a2 n1 c1 n2 c2 z1 z2 _ (h1.mono (hb0 _)) (h2.mono (hb0 _)) H.out hn).mono ?_; rintro e w1 ⟨x1, x2, rfl, hb, hr1, hr2, hnn⟩; have HN : Hid (x2.isNone = a2.isNone) := hnn; clear hnn; obtain ⟨k0, k1, k2, k3⟩ := two_cells ((hb.block w.heap.size (by simp)).trans (Deep.blk_alloc_new _ _)); have hsz : w.heap.size < w1.heap.size := by (have := hb.size; simp at this; omega))
  refine bodyPost_ret (v := .agg #[.slice x1 n1 n1, .slice x2 n2 n2]) (by simp [results, Try.results18, go_sem, k0, k1]) rfl ⟨_, _, rfl, ?_, ?_, ?_, HN.out⟩
  · exact ((hb0 _).trans (hb.mono (by simp))).setCell (by simp) _ |>.setCell (by simp) _
  · exact ((hr1.setCell (by simp; omega) _).setCell (by simp; omega) _).less (by simp; omega)
  · exact ((hr2.setCell (by simp; omega) _).setCell (by simp; omega) _).less (by simp; omega)

theorem zz17_true (a1 a2 : Option Addr) (n1 c1 n2 c2 : Nat) (w : World) (h : n1 + n2 ≤ 1048576) :
    Calls Try.prog 17 #[.slice a1 n1 c1, .slice a2 n2 c2] w fun e w' => e = .returned (.bool true) ∧ w = w' := by
  have h1 : ¬ ((1048576 : Int) < (n1 : Int)) := by omega
  have h2 : ¬ ((1048576 : Int) < (n2 : Int)) := by omega
  have h3 : ¬ ((1048576 : Int) < (n1 : Int) + (n2 : Int)) := by omega
  go_enter Try.func17, Try.ntmps17
  go_wp2
  go_ret
  exact ⟨rfl, rfl⟩

theorem zz17_false (a1 a2 : Option Addr) (n1 c1 n2 c2 : Nat) (w : World) (h : ¬ n1 + n2 ≤ 1048576) :
    Calls Try.prog 17 #[.slice a1 n1 c1, .slice a2 n2 c2] w fun e w' => e = .returned (.bool false) ∧ w = w' := by
  by_cases h1 : (1048576 : Int) < (n1 : Int)
  · go_enter Try.func17, Try.ntmps17
    go_wp2
    go_ret
    exact ⟨rfl, rfl⟩
  · by_cases h2 : (1048576 : Int) < (n2 : Int)
    · go_enter Try.func17, Try.ntmps17
      go_wp2
      go_ret
      exact ⟨rfl, rfl⟩
    · have h3 : (1048576 : Int) < (n1 : Int) + (n2 : Int) := by omega
      go_enter Try.func17, Try.ntmps17
      go_wp2
      go_ret
      exact ⟨rfl, rfl⟩
end Go.Proofs.Qxb6000626a
