import Derived.Test.Qxb6001044aCmp
namespace Go.Proofs.Qxb6001044a
open Go.RowKit

theorem Try.info38 : (Try.prog.info? 38).map (fun i => (i.zero, i.size, i.bytes)) = some (some (.agg #[.int .u64 0, .slice none 0 0, .slice none 0 0]), 3, 56) := by kernel_rfl
theorem Try.info43 : (Try.prog.info? 43).map (fun i => (i.zero, i.size, i.bytes)) = some (some (.slice none 0 0), 1, 24) := by kernel_rfl
theorem Try.info40 : (Try.prog.info? 40).map (fun i => (i.zero, i.size, i.bytes)) = some (some (.agg #[.int .u64 0, .int .u64 0, .slice none 0 0, .slice none 0 0]), 4, 64) := by kernel_rfl

/-- w' is w but for block X and new blocks. -/
structure Bar (X : Nat) (w w' : World) : Prop where
  os : w'.os = w.os
  tape : w'.tape = w.tape
  output : w'.output = w.output
  size : w.heap.size ≤ w'.heap.size
  block : ∀ k, k < w.heap.size → k ≠ X → w'.heap[k]? = w.heap[k]?

theorem Bar.of_below {X : Nat} {w w' : World} (h : Below w.heap.size w w') : Bar X w w' := ⟨h.os, h.tape, h.output, h.size, fun k hk _ => h.block k hk⟩
theorem Bar.trans {X : Nat} {a b c : World} (h : Bar X a b) (k : Bar X b c) : Bar X a c :=
  ⟨k.os.trans h.os, k.tape.trans h.tape, k.output.trans h.output, Nat.le_trans h.size k.size, fun i hi hX => (k.block i (Nat.lt_of_lt_of_le hi h.size) hX).trans (h.block i hi hX)⟩
theorem Bar.below {X B : Nat} {w w' : World} (h : Bar X w w') (hB : B ≤ X) (hs : B ≤ w.heap.size) : Below B w w' :=
  ⟨h.os, h.tape, h.output, h.size, fun k hk => h.block k (by omega) (by omega)⟩
theorem Bar.cell {X : Nat} {w w' : World} (h : Bar X w w') {a : Addr} {v : Value} (ha : a.block ≠ X) (hc : w.cell? a = some v) : w'.cell? a = some v :=
  (World.cell?_of_block (w := w) (h.block _ (World.block_lt_of_cell? _ _ hc) ha)).trans hc

/-- 'append(s, x...)' WITHIN THE CAPACITY, s at the head of a row of the call's own, elements of sz cells, the row's content told by its index. -/
theorem wpList_append_rowN {P : Program} {w : World} {ops : Array Oper} {rest : List Oper} {o : Oper} {a : Act} {Q : Exit → Act → World → Prop} (hgd : o.guard = none) (s x : Operand) (t : TypeId)
    (ho : o.op = .call { callee := .builtin .append, args := #[s, x], argTypes := #[t, t] }) (e : TypeId) (i : TypeInfo) (sz : Nat) (ht : P.underlying t = some (.slice e)) (hi : P.info? e = some i) (hsz : i.size = sz)
    (g n cap : Nat) (f : Nat → Value) (hg : w.rowIs g e (cap * sz) f) (hs : a.eval s = .slice (some ⟨g, 0, none⟩) n cap)
    (b o' m c : Nat) (hx : a.eval x = .slice (some ⟨b, o', none⟩) m c) (cs : Nat → Value) (hsrc : ∀ j, j < m * sz → w.cell? ⟨b, o' + j, none⟩ = some (cs j)) (h1 : ∀ j, j < m * sz → (cs j).oneCell' = true) (hroom : n + m ≤ cap)
    (h : ∀ w', Bar g w w' → w'.heap.size = w.heap.size → w'.rowIs g e (cap * sz) (fun j => if n * sz ≤ j ∧ j < n * sz + m * sz then cs (j - n * sz) else f j) → wpList P ops Q rest (a.put o.dst (.slice (some ⟨g, 0, none⟩) (n + m) cap)) w') :
    wpList P ops Q (o :: rest) a w := by
  obtain ⟨c0, hc, hcn, hcf⟩ := hg
  have hl : ((List.range (m * sz)).map cs).length = m * sz := by simp
  have hfit : n * sz + m * sz ≤ cap * sz := by rw [← Nat.add_mul]; exact Nat.mul_le_mul_right _ hroom
  have hrun := run_append_room (P := P) w t o.type e i ht hi g n cap c0 hc ⟨b, o', none⟩ m c ((List.range (m * sz)).map cs) (by rw [hl, hsz])
    (by
      intro j v hv
      have hj : j < m * sz := by
        have := (List.getElem?_eq_some_iff.1 hv).1
        simpa using this
      rw [Addr.add_lit, hsrc j hj]
      simpa [hj] using hv)
    (by intro v hv; obtain ⟨j, hj, rfl⟩ := List.mem_map.1 hv; exact h1 j (List.mem_range.1 hj)) hroom (by rw [hl, hsz]; omega)
  refine wpList_plain hgd fun K hK => ?_
  unfold Oper.wp
  simp only [execOp, ho, resolve, invoke, builtin, Sem.run_bind, Sem.run_pure, Result.andThen_ok, List.map_toArray, List.map_cons, List.map_nil, hs, hx, hrun]
  refine hK _ _ (h _ ⟨rfl, rfl, rfl, by simp [World.setRow], fun k _ hk => setRow_other w g k _ (fun e => hk e)⟩ (by simp [World.setRow]) ⟨_, setRow_heap w g c0 _ e _ hc, by simp [hsz]; omega, fun j hj => ?_⟩)
  simp only [List.getElem?_toArray, hsz, hl, List.append_assoc]
  by_cases c1 : j < n * sz
  · rw [List.getElem?_append_left (by simp; omega), List.getElem?_take, if_pos c1, if_neg (by omega)]
    simpa using hcf j hj
  · rw [List.getElem?_append_right (by simp; omega)]
    have el : (c0.toList.take (n * sz)).length = n * sz := by simp; omega
    rw [el]
    by_cases c2 : j < n * sz + m * sz
    · rw [List.getElem?_append_left (by simp; omega), if_pos ⟨by omega, c2⟩]
      have hj2 : j - n * sz < m * sz := by omega
      simp [hj2]
    · rw [List.getElem?_append_right (by simp; omega), hl, List.getElem?_drop, if_neg (by omega)]
      have : n * sz + m * sz + (j - n * sz - m * sz) = j := by omega
      rw [this]
      simpa using hcf j hj

/-- One block of the chain, as its cells say. -/
structure Blk where
  rd : Int
  ta : Option Addr
  tn : Nat
  tc : Nat
  xa : Nat → Option Addr
  xl : Nat → Nat
  xc : Nat → Nat
  ca : Option Addr
  cn : Nat
  cc : Nat
  au : Nat → ByteArray
  ar : Nat → Int

/-- Transaction t of a block, as a cell. -/
def xv (D : Blk) (t : Nat) : Value := .slice (D.xa t) (D.xl t) (D.xc t)

/-- The bounds that hold of every block that zzBuildChain makes. -/
structure Good (D : Blk) : Prop where
  tc : D.tn ≤ D.tc
  tm : D.tc ≤ 9223372036854775807
  tnil : D.ta = none → D.tc = 0
  tn : D.tn ≤ 65536
  xl : ∀ t, t < D.tn → D.xl t ≤ 65535
  cn : D.cn ≤ 1
  au : ∀ c, c < D.cn → (D.au c).size ≤ 1048576
  cnil : D.ca = none → D.cn = 0

/-- As 'Rd'; and the cells do not lie in block X. -/
def RdX (X : Nat) (w : World) (a : Option Addr) (n : Nat) (V : Nat → Value) : Prop :=
  0 < n → ∃ b o, b ≠ X ∧ a = some ⟨b, o, none⟩ ∧ ∀ i, i < n → w.cell? ⟨b, o + i, none⟩ = some (V i)
def RdSlotsX (X : Nat) (w : World) (a : Option Addr) (n : Nat) (au : Nat → ByteArray) (ar : Nat → Int) : Prop :=
  0 < n → ∃ b o, b ≠ X ∧ a = some ⟨b, o, none⟩ ∧ ∀ i, i < n → w.cell? ⟨b, o + i * 2, none⟩ = some (.string (au i)) ∧ w.cell? ⟨b, o + i * 2 + 1, none⟩ = some (.int .u64 (ar i))

theorem RdX.rd {X : Nat} {w : World} {a : Option Addr} {n : Nat} {V : Nat → Value} (h : RdX X w a n V) : Rd w a n V := fun hn => by obtain ⟨b, o, _, ha, hc⟩ := h hn; exact ⟨b, o, ha, hc⟩
theorem RdSlotsX.rd {X : Nat} {w : World} {a : Option Addr} {n : Nat} {au : Nat → ByteArray} {ar : Nat → Int} (h : RdSlotsX X w a n au ar) : RdSlots w a n au ar := fun hn => by obtain ⟨b, o, _, ha, hc⟩ := h hn; exact ⟨b, o, ha, hc⟩
theorem RdX.bar {X : Nat} {w w' : World} {a : Option Addr} {n : Nat} {V : Nat → Value} (h : RdX X w a n V) (hb : Bar X w w') : RdX X w' a n V := fun hn => by
  obtain ⟨b, o, hX, ha, hc⟩ := h hn
  exact ⟨b, o, hX, ha, fun i hi => hb.cell hX (hc i hi)⟩
theorem RdSlotsX.bar {X : Nat} {w w' : World} {a : Option Addr} {n : Nat} {au : Nat → ByteArray} {ar : Nat → Int} (h : RdSlotsX X w a n au ar) (hb : Bar X w w') : RdSlotsX X w' a n au ar := fun hn => by
  obtain ⟨b, o, hX, ha, hc⟩ := h hn
  exact ⟨b, o, hX, ha, fun i hi => ⟨hb.cell hX (hc i hi).1, hb.cell hX (hc i hi).2⟩⟩

/-- How many transactions the first r blocks hold. -/
def cnt (D : Nat → Blk) : Nat → Nat
  | 0 => 0
  | r + 1 => cnt D r + (D r).tn

theorem cnt_congr {D D' : Nat → Blk} : ∀ {r : Nat}, (∀ i, i < r → D i = D' i) → cnt D r = cnt D' r
  | 0, _ => rfl
  | r + 1, h => by rw [cnt, cnt, cnt_congr (fun i hi => h i (Nat.lt_succ_of_lt hi)), h r (Nat.lt_succ_self r)]

/-- Block BB is the row of the chain's blocks; r of nb are laid. -/
structure Built (wr : World) (BB nb r : Nat) (D : Nat → Blk) (f : Nat → Value) : Prop where
  row : wr.rowIs BB 38 (nb * 3) f
  f0 : ∀ i, i < r → f (i * 3) = .int .u64 (D i).rd
  f1 : ∀ i, i < r → f (i * 3 + 1) = .slice (D i).ta (D i).tn (D i).tc
  f2 : ∀ i, i < r → f (i * 3 + 2) = .slice (D i).ca (D i).cn (D i).cc
  txs : ∀ i, i < r → RdX BB wr (D i).ta (D i).tn (xv (D i))
  tx8 : ∀ i, i < r → ∀ t, t < (D i).tn → ∃ z, RdX BB wr ((D i).xa t) ((D i).xl t) (vU8 z)
  slots : ∀ i, i < r → RdSlotsX BB wr (D i).ca (D i).cn (D i).au (D i).ar
  good : ∀ i, i < r → Good (D i)

/-- The chain as the walks read it: nb blocks from offset off of block BB on. -/
structure Chain (w : World) (BB off nb : Nat) (D : Nat → Blk) : Prop where
  c0 : ∀ r, r < nb → w.cell? ⟨BB, off + r * 3, none⟩ = some (.int .u64 (D r).rd)
  c1 : ∀ r, r < nb → w.cell? ⟨BB, off + r * 3 + 1, none⟩ = some (.slice (D r).ta (D r).tn (D r).tc)
  c2 : ∀ r, r < nb → w.cell? ⟨BB, off + r * 3 + 2, none⟩ = some (.slice (D r).ca (D r).cn (D r).cc)
  txs : ∀ r, r < nb → Rd w (D r).ta (D r).tn (xv (D r))
  tx8 : ∀ r, r < nb → ∀ t, t < (D r).tn → ∃ z, Rd w ((D r).xa t) ((D r).xl t) (vU8 z)
  slots : ∀ r, r < nb → RdSlots w (D r).ca (D r).cn (D r).au (D r).ar
  good : ∀ r, r < nb → Good (D r)

theorem Chain.mono {w w' : World} {BB off nb : Nat} {D : Nat → Blk} (h : Chain w BB off nb D) (hb : Below w.heap.size w w') : Chain w' BB off nb D :=
  ⟨fun r hr => cell_later hb (h.c0 r hr), fun r hr => cell_later hb (h.c1 r hr), fun r hr => cell_later hb (h.c2 r hr), fun r hr => (h.txs r hr).mono hb,
    fun r hr t ht => by obtain ⟨z, hz⟩ := h.tx8 r hr t ht; exact ⟨z, hz.mono hb⟩, fun r hr => (h.slots r hr).mono hb, h.good⟩

theorem Chain.from {w : World} {BB off nb : Nat} {D : Nat → Blk} (h : Chain w BB off nb D) (b : Nat) : Chain w BB (off + b * 3) (nb - b) (fun r => D (b + r)) := by
  have e : ∀ r, off + b * 3 + r * 3 = off + (b + r) * 3 := fun r => by omega
  refine ⟨fun r hr => ?_, fun r hr => ?_, fun r hr => ?_, fun r hr => h.txs _ (by omega), fun r hr t ht => h.tx8 _ (by omega) t ht, fun r hr => h.slots _ (by omega), fun r hr => h.good _ (by omega)⟩
  · rw [e]; exact h.c0 _ (by omega)
  · rw [e]; exact h.c1 _ (by omega)
  · rw [e]; exact h.c2 _ (by omega)

theorem Built.chain {wr : World} {BB nb : Nat} {D : Nat → Blk} {f : Nat → Value} (h : Built wr BB nb nb D f) : Chain wr BB 0 nb D :=
  ⟨fun r hr => by rw [Nat.zero_add, h.row.cell (by omega), h.f0 r hr], fun r hr => by rw [Nat.zero_add, h.row.cell (by omega), h.f1 r hr], fun r hr => by rw [Nat.zero_add, h.row.cell (by omega), h.f2 r hr],
    fun r hr => (h.txs r hr).rd, fun r hr t ht => by obtain ⟨z, hz⟩ := h.tx8 r hr t ht; exact ⟨z, hz.rd⟩, fun r hr => (h.slots r hr).rd, h.good⟩

/-- One block more. -/
theorem Built.step {wr w1 : World} {BB nb r : Nat} {D : Nat → Blk} {f f' : Nat → Value} (h : Built wr BB nb r D f) (hb : Bar BB wr w1) (hrow : w1.rowIs BB 38 (nb * 3) f') (hf : ∀ j, j < r * 3 → f' j = f j) {N : Blk}
    (g0 : f' (r * 3) = .int .u64 N.rd) (g1 : f' (r * 3 + 1) = .slice N.ta N.tn N.tc) (g2 : f' (r * 3 + 2) = .slice N.ca N.cn N.cc)
    (t1 : RdX BB w1 N.ta N.tn (xv N)) (t2 : ∀ t, t < N.tn → ∃ z, RdX BB w1 (N.xa t) (N.xl t) (vU8 z)) (t3 : RdSlotsX BB w1 N.ca N.cn N.au N.ar) (hg : Good N) :
    Built w1 BB nb (r + 1) (fun i => if i = r then N else D i) f' := by
  refine ⟨hrow, fun i hi => ?_, fun i hi => ?_, fun i hi => ?_, fun i hi => ?_, fun i hi t ht => ?_, fun i hi => ?_, fun i hi => ?_⟩
  all_goals
    by_cases e : i = r
    · subst e
      simp only [if_true] at *
      first | assumption | exact t2 t ht
    · simp only [if_neg e] at *
      first
        | (rw [hf _ (by omega)]; exact h.f0 i (by omega))
        | (rw [hf _ (by omega)]; exact h.f1 i (by omega))
        | (rw [hf _ (by omega)]; exact h.f2 i (by omega))
        | exact (h.txs i (by omega)).bar hb
        | (obtain ⟨z, hz⟩ := h.tx8 i (by omega) t ht; exact ⟨z, hz.bar hb⟩)
        | exact (h.slots i (by omega)).bar hb
        | exact h.good i (by omega)

theorem cnt_step (D : Nat → Blk) (r : Nat) (N : Blk) : cnt (fun i => if i = r then N else D i) (r + 1) = cnt D r + N.tn := by
  rw [cnt, cnt_congr (D' := D) (fun i hi => if_neg (by omega)), if_pos rfl]
end Go.Proofs.Qxb6001044a
