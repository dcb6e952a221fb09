import Derived.Test.Qxb6000626aRowsOf
namespace Go.Proofs.Qxb6000626a
open Go.RowKit

/-! ### bytes.Clone of an empty slice -/
theorem bclone_nil (c : Nat) (w : World) :
    Calls Try.prog 28 #[.slice none 0 c] w fun e w' => e = .returned (.slice none 0 0) ∧ w = w' := by
  have q22 : ∀ (w : World) (a : Option Addr) (n c n' c' : Nat), (binOp .eql 22 (.slice a n c) (.slice none n' c')).run Try.prog w = .ok (.bool a.isNone) w := fun w a n c n' c' => Lib.run_eql_slice_nil w _ _ a n c n' c' Try.underlying22
  go_enter Try.func28, Try.ntmps28
  go_wp2
  go_ret
  exact ⟨rfl, rfl⟩

theorem bclone_empty (x : Addr) (c : Nat) (w : World) :
    Calls Try.prog 28 #[.slice (some x) 0 c] w fun e w' => e = .returned (.slice (some ⟨w.heap.size, 0, none⟩) 0 0) ∧ w.alloc (.cells #[] 5) = w' := by
  have q22 : ∀ (w : World) (a : Option Addr) (n c n' c' : Nat), (binOp .eql 22 (.slice a n c) (.slice none n' c')).run Try.prog w = .ok (.bool a.isNone) w := fun w a n c n' c' => Lib.run_eql_slice_nil w _ _ a n c n' c' Try.underlying22
  go_enter Try.func28, Try.ntmps28
  go_wp2
  go_ret
  exact ⟨rfl, rfl⟩

/-- 'append(s, x...)' WITHIN THE CAPACITY, s at the head of a row of the call's own, the row's content told by its index. -/
theorem wpList_append_row {P : Program} {w : World} {ops : Array Oper} {rest : List Oper} {o : Oper} {a : Act} {Q : Exit → Act → World → Prop} (hgd : o.guard = none) (s x : Operand) (t : TypeId)
    (ho : o.op = .call { callee := .builtin .append, args := #[s, x], argTypes := #[t, t] }) (e : TypeId) (i : TypeInfo) (ht : P.underlying t = some (.slice e)) (hi : P.info? e = some i) (hsz : i.size = 1)
    (g n cap : Nat) (f : Nat → Value) (hg : w.rowIs g e cap f) (hs : a.eval s = .slice (some ⟨g, 0, none⟩) n cap)
    (b o' m c : Nat) (hx : a.eval x = .slice (some ⟨b, o', none⟩) m c) (cs : Nat → Value) (hsrc : ∀ j, j < m → w.cell? ⟨b, o' + j, none⟩ = some (cs j)) (h1 : ∀ j, (cs j).oneCell' = true) (hroom : n + m ≤ cap)
    (h : ∀ w', Only g w w' → w'.rowIs g e cap (fun j => if n ≤ j ∧ j < n + m then cs (j - n) else f j) → wpList P ops Q rest (a.put o.dst (.slice (some ⟨g, 0, none⟩) (n + m) cap)) w') :
    wpList P ops Q (o :: rest) a w := by
  obtain ⟨c0, hc, hcn, hcf⟩ := hg
  have hl : ((List.range m).map cs).length = m := by simp
  have hrun := run_append_room (P := P) w t o.type e i ht hi g n cap c0 hc ⟨b, o', none⟩ m c ((List.range m).map cs) (by rw [hl, hsz, Nat.mul_one])
    (by
      intro j v hv
      have hj : j < m := by
        have := (List.getElem?_eq_some_iff.1 hv).1
        simpa using this
      rw [Addr.add_lit, hsrc j hj]
      simpa [hj] using hv)
    (by intro v hv; obtain ⟨j, _, rfl⟩ := List.mem_map.1 hv; exact h1 j) hroom (by rw [hl, hsz]; omega)
  refine wpList_plain hgd fun K hK => ?_
  unfold Oper.wp
  simp only [execOp, ho, resolve, invoke, builtin, Sem.run_bind, Sem.run_pure, Result.andThen_ok, List.map_toArray, List.map_cons, List.map_nil, hs, hx, hrun]
  refine hK _ _ (h _ ⟨rfl, rfl, rfl, by simp [World.setRow], fun k hk => setRow_other w g k _ (fun e => hk e)⟩ ⟨_, setRow_heap w g c0 _ e _ hc, by simp [hsz]; omega, fun j hj => ?_⟩)
  simp only [List.getElem?_toArray, hsz, Nat.mul_one, hl, List.append_assoc]
  by_cases c1 : j < n
  · rw [List.getElem?_append_left (by simp; omega), List.getElem?_take, if_pos c1, if_neg (by omega)]
    simpa using hcf j hj
  · rw [List.getElem?_append_right (by simp; omega)]
    have el : (c0.toList.take n).length = n := by simp; omega
    rw [el]
    by_cases c2 : j < n + m
    · rw [List.getElem?_append_left (by simp; omega), if_pos ⟨by omega, c2⟩]
      have hj2 : j - n < m := by omega
      simp [hj2]
    · rw [List.getElem?_append_right (by simp; omega), hl, List.getElem?_drop, if_neg (by omega)]
      have : n + m + (j - n - m) = j := by omega
      rw [this]
      simpa using hcf j hj

/-- The copier at block P: its chunk is the row at block C, of which u cells are used. -/
structure Chunk (w : World) (P C u cap : Nat) (f : Nat → Value) : Prop where
  at0 : w.rowIs P 39 1 (fun _ => .slice (some ⟨C, 0, none⟩) u cap)
  row : w.rowIs C 5 cap f
  ne : C ≠ P
  le : u ≤ cap
  cap : cap ≤ 1048576

/-- What copy comes to where the bytes go into the chunk at C behind its first u. -/
def PostFit (P C u cap n : Nat) (f : Nat → Value) (zs : List Int) (w : World) (e : Ending) (w' : World) : Prop :=
  e = .returned (.slice (some ⟨C, u, none⟩) n n) ∧ Chunk w' P C (u + n) cap (fun j => if u ≤ j ∧ j < u + n then bt zs (j - u) else f j) ∧ w'.heap.size = w.heap.size ∧ w'.os = w.os ∧ w'.tape = w.tape ∧ w'.output = w.output ∧ ∀ k, k ≠ P → k ≠ C → w'.heap[k]? = w.heap[k]?

set_option maxHeartbeats 1000000 in
theorem copy_fit (P C u cap : Nat) (f : Nat → Value) (b o n c : Nat) (zs : List Int) (w : World) (hc : Chunk w P C u cap f) (hn : 0 < n) (hfit : u + n ≤ cap) (hz : ∀ i, i < n → w.cell? ⟨b, o + i, none⟩ = some (.int .u8 (zs.getD i 0))) :
    Calls Try.prog 27 #[.pointer (some ⟨P, 0, none⟩), .slice (some ⟨b, o, none⟩) n c] w (PostFit P C u cap n f zs w) := by
  have k0 : w.cell? ⟨P, 0, none⟩ = some (.slice (some ⟨C, 0, none⟩) u cap) := hc.at0.cell (Nat.lt_succ_self 0)
  have k1 : w.frozen? ⟨P, 0, none⟩ = false := hc.at0.frozen 0
  have hcap := hc.cap
  have hn0 : ((n : Int) == 0) = false := beq_eq_false_iff_ne.2 (by omega)
  have hnf : ¬ ((cap : Int) - (u : Int) < (n : Int)) := by omega
  obtain ⟨i0, hi, hz0, hz1, hz2⟩ := info_parts Try.info5
  go_enter Try.func27, Try.ntmps27
  go_wp2
  go_quiet (fail)
  go_wp2_with (at_builtin; refine wpList_append_row rfl (.tmp 41) (.tmp 42) 22 rfl 5 i0 Try.underlying22 hi hz1 C u cap f ?r1 rfl b o n c rfl (bt zs) ?r2 ?r3 hfit ?_)
  case r1 => exact hc.row
  case r2 => exact hz
  case r3 => exact fun _ => rfl
  intro w1 hO hR
  have j0 : w1.cell? ⟨P, 0, none⟩ = some (.slice (some ⟨C, 0, none⟩) u cap) := (hO.cell (a := ⟨P, 0, none⟩) hc.ne.symm).trans k0
  have j1 : w1.frozen? ⟨P, 0, none⟩ = false := (hO.frozen (a := ⟨P, 0, none⟩) hc.ne.symm).trans k1
  have hP := hc.at0.of_block (hO.block P hc.ne.symm)
  have hne := hc.ne
  clear k0 k1 hz hc
  go_wp2
  go_quiet (fail)
  go_wp2
  go_ret
  refine ⟨?_, ⟨((hP.set 0 _).congr fun j hj => ?_), hR.setOther hne _, hne, hfit, hcap⟩, ?_, ?_, ?_, ?_, ?_⟩
  · show Ending.returned (.slice (some ⟨C, u, none⟩) (u + n - u) (u + n - u)) = _
    rw [Nat.add_sub_cancel_left]
  · rw [if_pos (by omega)]
  · simpa using hO.size
  · exact hO.os
  · exact hO.tape
  · exact hO.output
  · intro k h1 h2
    exact (Below.heap_setCell _ _ _ _ h1).trans (hO.block k h2)

/-- What copy comes to where a new chunk is made. -/
def PostNew (P n : Nat) (zs : List Int) (w : World) (e : Ending) (w' : World) : Prop :=
  e = .returned (.slice (some ⟨w.heap.size, 0, none⟩) n n) ∧ (∃ cap f, Chunk w' P w.heap.size n cap f ∧ ∀ j, j < n → f j = bt zs j) ∧ w.heap.size ≤ w'.heap.size ∧ w'.os = w.os ∧ w'.tape = w.tape ∧ w'.output = w.output ∧ ∀ k, k ≠ P → k < w.heap.size → w'.heap[k]? = w.heap[k]?

theorem run_make_cap (n : Nat) (hn : n ≤ 1048576) (w : World) :
    (Instr.makeSlice 22 (.int .i64 0) (.int .i64 (n : Int))).run Try.prog w = .ok (.slice (some ⟨w.heap.size, 0, none⟩) 0 n) (w.alloc (.cells (madeCells #[.int .u8 0] n) 5)) := by
  obtain ⟨i0, hi, hz0, hz1, hz2⟩ := info_parts Try.info5
  have h := run_make (P := Try.prog) w 22 5 i0 (.int .u8 0) Try.underlying22 hi hz0 .i64 .i64 0 (n : Int) (Int.le_refl _) (by omega) (by rw [hz2]; omega) (by omega)
  simp only [Int.toNat_natCast, hz1, Nat.mul_one] at h
  exact h

set_option maxHeartbeats 1000000 in
theorem copy_new (P : Nat) (s : Option Addr) (u cap : Nat) (b o n c : Nat) (zs : List Int) (w : World) (hp : w.rowIs P 39 1 (fun _ => .slice s u cap)) (hu : u ≤ cap) (_hcap : cap ≤ 1048576) (hn : 0 < n) (hnm : n ≤ 1048576) (hfit : ¬ u + n ≤ cap) (hbP : b ≠ P)
    (hz : ∀ i, i < n → w.cell? ⟨b, o + i, none⟩ = some (.int .u8 (zs.getD i 0))) :
    Calls Try.prog 27 #[.pointer (some ⟨P, 0, none⟩), .slice (some ⟨b, o, none⟩) n c] w (PostNew P n zs w) := by
  have k0 : w.cell? ⟨P, 0, none⟩ = some (.slice s u cap) := hp.cell (Nat.lt_succ_self 0)
  have k1 : w.frozen? ⟨P, 0, none⟩ = false := hp.frozen 0
  have hPl : P < w.heap.size := hp.lt
  have hn0 : ((n : Int) == 0) = false := beq_eq_false_iff_ne.2 (by omega)
  have hnf : (cap : Int) - (u : Int) < (n : Int) := by omega
  obtain ⟨i0, hi, hz0, hz1, hz2⟩ := info_parts Try.info5
  obtain ⟨N, hN, hN1, hN2⟩ : ∃ N : Nat, max (16384 : Int) (n : Int) = (N : Int) ∧ n ≤ N ∧ N ≤ 1048576 := ⟨max 16384 n, by omega, by omega, by omega⟩
  have hmx : ∀ (w : World), (Builtin.max_ #[3, 3] 3 #[.int .i64 16384, .int .i64 (n : Int)]).run Try.prog w = .ok (.int .i64 (N : Int)) w := fun w => by
    rw [← hN, run_max_int2]
    congr 2
    split <;> omega
  have hmk := run_make_cap N hN2
  clear hN
  have m0 : ∀ q o, ((w.drewN q).alloc o).cell? ⟨P, 0, none⟩ = some (.slice s u cap) := fun q o => (World.cell?_alloc_lt _ _ _ hPl).trans k0
  have m1 : ∀ q o, ((w.drewN q).alloc o).frozen? ⟨P, 0, none⟩ = false := fun q o => (World.frozen?_alloc_old _ _ _ (Nat.ne_of_lt hPl)).trans k1
  go_enter Try.func27, Try.ntmps27
  go_wp2
  go_quiet (fail)
  go_wp2_with (at_builtin; refine wpList_append_row rfl (.tmp 41) (.tmp 42) 22 rfl 5 i0 Try.underlying22 hi hz1 w.heap.size 0 N (fun _ => .int .u8 0) ?r1 rfl b o n c rfl (bt zs) ?r2 ?r3 (by omega) ?_)
  case r1 => exact ((World.rowIs_made (w.drewN _) (.int .u8 0) N 5).setOther (by exact Nat.ne_of_gt hPl) _)
  case r2 =>
    intro j hj
    rw [World.cell?_setCell_other _ _ _ _ (fun e => by have := congrArg Addr.block e; simp at this; omega)]
    have hb : b < w.heap.size := World.block_lt_of_cell? _ _ (hz j hj)
    exact (World.cell?_alloc_lt _ _ _ hb).trans (hz j hj)
  case r3 => exact fun _ => rfl
  intro w1 hO hR
  have hne : w.heap.size ≠ P := by omega
  have hs1 : w.heap.size < w1.heap.size := by rw [hO.size]; simp
  have hP := (((hp.of_block (w' := (w.drewN nq).alloc (.cells (madeCells #[.int .u8 0] N) 5)) (Deep.blk_alloc_lt (w.drewN nq) _ _ hPl)).set 0 (.slice (some ⟨w.heap.size, 0, none⟩) 0 N)).of_block (hO.block P (by omega))).congr (g := fun _ => .slice (some ⟨w.heap.size, 0, none⟩) 0 N) (fun j hj => by rw [if_pos (by omega)])
  have hblk : ∀ k, k ≠ P → k < w.heap.size → w1.heap[k]? = w.heap[k]? := fun k h1 h2 => ((hO.block k (by omega)).trans (Below.heap_setCell _ _ _ _ h1)).trans (Deep.blk_alloc_lt (w.drewN nq) _ _ h2)
  have HB : Hid (∀ k, k ≠ P → k < w.heap.size → w1.heap[k]? = w.heap[k]?) := hblk
  have HO : Hid (w1.os = w.os ∧ w1.tape = w.tape ∧ w1.output = w.output) := ⟨hO.os, hO.tape, hO.output⟩
  have j0 : w1.cell? ⟨P, 0, none⟩ = some (.slice (some ⟨w.heap.size, 0, none⟩) 0 N) := hP.cell (Nat.lt_succ_self 0)
  have j1 : w1.frozen? ⟨P, 0, none⟩ = false := hP.frozen 0
  clear hblk hO m0 m1 hmk hmx k0 k1 hz hp hnf
  go_wp2
  go_quiet (fail)
  go_wp2
  go_ret
  refine ⟨rfl, ⟨N, _, ⟨((hP.set 0 _).congr fun j hj => ?_), hR.setOther hne _, hne, hN1, hN2⟩, fun j hj => ?_⟩, ?_, HO.out.1, HO.out.2.1, HO.out.2.2, ?_⟩
  · rw [if_pos (by omega)]
  · simp [hj]
  · simp; omega
  · intro k h1 h2
    exact (Below.heap_setCell _ _ _ _ h1).trans (HB.out k h1 h2)

theorem copy_nil (P : Nat) (c : Nat) (w : World) :
    Calls Try.prog 27 #[.pointer (some ⟨P, 0, none⟩), .slice none 0 c] w fun e w' => e = .returned (.slice none 0 0) ∧ w = w' := by
  go_enter Try.func27, Try.ntmps27
  go_wp2_with (go_at_call 28; refine (bclone_nil c _).mono ?_; rintro e w' ⟨rfl, rfl⟩)
  go_ret
  exact ⟨rfl, rfl⟩

theorem copy_empty (P : Nat) (x : Addr) (c : Nat) (w : World) :
    Calls Try.prog 27 #[.pointer (some ⟨P, 0, none⟩), .slice (some x) 0 c] w fun e w' => e = .returned (.slice (some ⟨w.heap.size, 0, none⟩) 0 0) ∧ w.alloc (.cells #[] 5) = w' := by
  go_enter Try.func27, Try.ntmps27
  go_wp2_with (go_at_call 28; refine (bclone_empty x c _).mono ?_; rintro e w' ⟨rfl, rfl⟩)
  go_ret
  exact ⟨rfl, rfl⟩

/-- The copier's state: no chunk yet (then C is P itself and u is 0); or the chunk C, u cells used, C from B on. -/
def St (w : World) (P B C u : Nat) : Prop :=
  (w.rowIs P 39 1 (fun _ => .slice none 0 0) ∧ C = P ∧ u = 0) ∨ (B ≤ C ∧ ∃ cap f, Chunk w P C u cap f)

/-- What turns at a copy: the copier's cell, and the chunk behind its first u cells. -/
structure Kept (w w' : World) (P C u : Nat) : Prop where
  os : w'.os = w.os
  tape : w'.tape = w.tape
  output : w'.output = w.output
  size : w.heap.size ≤ w'.heap.size
  block : ∀ k, k < w.heap.size → k ≠ P → k ≠ C → w'.heap[k]? = w.heap[k]?
  used : C ≠ P → ∀ j, j < u → w'.cell? ⟨C, j, none⟩ = w.cell? ⟨C, j, none⟩

theorem Kept.refl (w : World) (P C u : Nat) : Kept w w P C u := ⟨rfl, rfl, rfl, Nat.le_refl _, fun _ _ _ _ => rfl, fun _ _ _ => rfl⟩

/-- As 'RdF'; and of cells in block C: they lie among its first u. -/
def RdU (B : Nat) (w : World) (C u : Nat) (a : Option Addr) (n : Nat) (zs : List Int) : Prop :=
  zs.length = n ∧ (0 < n → ∃ b o, B ≤ b ∧ a = some ⟨b, o, none⟩ ∧ (b = C → o + n ≤ u) ∧ ∀ i, i < n → w.cell? ⟨b, o + i, none⟩ = some (.int .u8 (zs.getD i 0)))

theorem RdU.rd {B C u : Nat} {w : World} {a : Option Addr} {n : Nat} {zs : List Int} (h : RdU B w C u a n zs) : Rd w a n zs :=
  ⟨h.1, fun hn => by obtain ⟨b, o, _, ha, _, hc⟩ := h.2 hn; exact ⟨b, o, ha, hc⟩⟩
theorem RdU.zero (B : Nat) (w : World) (C u : Nat) (a : Option Addr) {zs : List Int} (h : zs.length = 0) : RdU B w C u a 0 zs := ⟨h, fun h => absurd h (Nat.lt_irrefl 0)⟩
theorem RdU.setCell {B C u : Nat} {w : World} {a : Option Addr} {n : Nat} {zs : List Int} (h : RdU B w C u a n zs) {p : Addr} (hp : p.block < B) (v : Value) : RdU B (w.setCell p v) C u a n zs :=
  ⟨h.1, fun hn => by
    obtain ⟨b, o, hB, ha, hC, hc⟩ := h.2 hn
    refine ⟨b, o, hB, ha, hC, fun i hi => ?_⟩
    rw [World.cell?_setCell_other _ _ _ _ (fun e => by have := congrArg Addr.block e; simp at this; omega)]
    exact hc i hi⟩

theorem RdU.kept {B P C u C' u' : Nat} {w w' : World} {a : Option Addr} {n : Nat} {zs : List Int} (h : RdU B w C u a n zs) (hPB : P < B) (hk : Kept w w' P C u) (hC : (C' = C ∧ u ≤ u') ∨ w.heap.size ≤ C') : RdU B w' C' u' a n zs :=
  ⟨h.1, fun hn => by
    obtain ⟨b, o, hB, ha, hbC, hc⟩ := h.2 hn
    have hlt : b < w.heap.size := World.block_lt_of_cell? _ _ (hc 0 hn)
    refine ⟨b, o, hB, ha, fun e => ?_, fun i hi => ?_⟩
    · rcases hC with ⟨rfl, hu⟩ | hC
      · have := hbC e; omega
      · omega
    · rw [← hc i hi]
      by_cases e : b = C
      · have := hbC e
        subst e
        exact hk.used (by omega) (o + i) (by omega)
      · exact World.cell?_of_block (w := w) (hk.block b hlt (by omega) e)⟩

/-- What copy comes to, whatever the slice. -/
def PostCopy (P B C u n : Nat) (a : Option Addr) (zs : List Int) (w : World) (e : Ending) (w' : World) : Prop :=
  ∃ X C' u', e = .returned (.slice X n n) ∧ X.isNone = a.isNone ∧ St w' P B C' u' ∧ ((C' = C ∧ u ≤ u') ∨ w.heap.size ≤ C') ∧ RdU B w' C' u' X n zs ∧ Kept w w' P C u

theorem copy_any (P B C u : Nat) (a : Option Addr) (n c : Nat) (zs : List Int) (w : World) (hs : St w P B C u) (_hPB : P < B) (hBw : B ≤ w.heap.size) (hz : Rd w a n zs) (hnil : a = none → n = 0) (hn : n ≤ 1048576) (hnP : 0 < n → ∀ b o, a = some ⟨b, o, none⟩ → b ≠ P) :
    Calls Try.prog 27 #[.pointer (some ⟨P, 0, none⟩), .slice a n c] w (PostCopy P B C u n a zs w) := by
  by_cases h0 : n = 0
  · subst h0
    cases a with
    | none =>
      refine (copy_nil P c w).mono ?_
      rintro e w' ⟨rfl, rfl⟩
      exact ⟨none, C, u, rfl, rfl, hs, .inl ⟨rfl, Nat.le_refl _⟩, RdU.zero _ _ _ _ _ hz.1, Kept.refl _ _ _ _⟩
    | some x =>
      refine (copy_empty P x c w).mono ?_
      rintro e w' ⟨rfl, rfl⟩
      refine ⟨_, C, u, rfl, rfl, ?_, .inl ⟨rfl, Nat.le_refl _⟩, RdU.zero _ _ _ _ _ hz.1, ⟨rfl, rfl, rfl, by simp, fun k hk _ _ => Deep.blk_alloc_lt _ _ _ hk, fun hCP j hj => ?_⟩⟩
      · rcases hs with ⟨h1, h2, h3⟩ | ⟨hB, cap, f, h⟩
        · exact .inl ⟨h1.alloc _, h2, h3⟩
        · exact .inr ⟨hB, cap, f, h.at0.alloc _, h.row.alloc _, h.ne, h.le, h.cap⟩
      · rcases hs with ⟨_, h2, _⟩ | ⟨hB, cap, f, h⟩
        · exact absurd h2 hCP
        · exact World.cell?_alloc_lt _ _ _ h.row.lt
  · obtain ⟨b, o, rfl, hc⟩ := hz.2 (by omega)
    have hbP := hnP (by omega) b o rfl
    have new : ∀ (s : Option Addr) (u0 cap : Nat), w.rowIs P 39 1 (fun _ => .slice s u0 cap) → u0 ≤ cap → cap ≤ 1048576 → ¬ u0 + n ≤ cap → (C ≠ P → C < w.heap.size) → Calls Try.prog 27 #[.pointer (some ⟨P, 0, none⟩), .slice (some ⟨b, o, none⟩) n c] w (PostCopy P B C u n (some ⟨b, o, none⟩) zs w) := by
      intro s u0 cap hp h1 h2 h3 hCl
      refine (copy_new P s u0 cap b o n c zs w hp h1 h2 (by omega) hn h3 hbP hc).mono ?_
      rintro e w' ⟨rfl, ⟨cap', f, hch, hf⟩, q1, q2, q3, q4, q5⟩
      refine ⟨_, w.heap.size, n, rfl, rfl, .inr ⟨hBw, cap', f, hch⟩, .inr (Nat.le_refl _), ⟨hz.1, fun _ => ⟨_, 0, hBw, rfl, fun _ => by omega, fun i hi => ?_⟩⟩, ⟨q2, q3, q4, q1, fun k hk hkP _ => q5 k hkP hk, fun hCP j hj => ?_⟩⟩
      · have := hch.le
        rw [Nat.zero_add, hch.row.cell (by omega), hf i hi]; rfl
      · exact World.cell?_of_block (w := w) (q5 C hCP (hCl hCP))
    rcases hs with ⟨h1, h2, h3⟩ | ⟨hB, cap, f, h⟩
    · exact new none 0 0 h1 (Nat.le_refl _) (Nat.zero_le _) (by omega) (fun h => absurd h2 h)
    · by_cases hf : u + n ≤ cap
      · refine (copy_fit P C u cap f b o n c zs w h (by omega) hf hc).mono ?_
        rintro e w' ⟨rfl, hch, q1, q2, q3, q4, q5⟩
        refine ⟨_, C, u + n, rfl, rfl, .inr ⟨hB, cap, _, hch⟩, .inl ⟨rfl, by omega⟩, ⟨hz.1, fun _ => ⟨C, u, hB, rfl, fun _ => Nat.le_refl _, fun i hi => ?_⟩⟩, ⟨q2, q3, q4, Nat.le_of_eq q1.symm, fun k _ hkP hkC => q5 k hkP hkC, fun _ j hj => ?_⟩⟩
        · rw [hch.row.cell (by omega), if_pos ⟨by omega, by omega⟩, Nat.add_sub_cancel_left]; rfl
        · rw [hch.row.cell (by omega), h.row.cell (by omega), if_neg (by omega)]
      · exact new _ u cap h.at0 h.le h.cap hf (fun _ => h.row.lt)

theorem zzCopy_any (P B C u : Nat) (a : Option Addr) (n c : Nat) (zs : List Int) (w : World) (hs : St w P B C u) (hPB : P < B) (hBw : B ≤ w.heap.size) (hz : Rd w a n zs) (hnil : a = none → n = 0) (hn : n ≤ 1048576) (hnP : 0 < n → ∀ b o, a = some ⟨b, o, none⟩ → b ≠ P) :
    Calls Try.prog 22 #[.pointer (some ⟨P, 0, none⟩), .slice a n c] w (PostCopy P B C u n a zs w) := by
  have H1 : Hid (a = none → n = 0) := hnil
  have H2 : Hid (0 < n → ∀ b o, a = some ⟨b, o, none⟩ → b ≠ P) := hnP
  clear hnil hnP
  go_enter Try.func22, Try.ntmps22
  go_wp2_with fail
  refine (copy_any P B C u a n c zs _ hs hPB hBw hz H1.out hn H2.out).mono ?_
  rintro e w' ⟨X, C', u', rfl, h1, h2, h3, h4, h5⟩
  have HH : Hid (X.isNone = a.isNone ∧ St w' P B C' u' ∧ ((C' = C ∧ u ≤ u') ∨ w.heap.size ≤ C') ∧ RdU B w' C' u' X n zs ∧ Kept w w' P C u) := ⟨h1, h2, h3, h4, h5⟩
  clear h1 h2 h3 h4 h5
  go_wp2_with fail
  go_ret
  exact ⟨X, C', u', rfl, HH.out⟩
end Go.Proofs.Qxb6000626a
