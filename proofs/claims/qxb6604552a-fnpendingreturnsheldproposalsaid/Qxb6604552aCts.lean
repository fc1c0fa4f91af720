import Derived.Test.Qxb6604552aBuf
import Derived.Test.Qxb6604552aTake
import Derived.Deep.Cut
namespace Go.Proofs.Qxb6604552a.Pend
open Go.RowKit Mid
open Go.Proofs.Qxb6604552a.Node (wpL_load30 wpL_eql30 wpL_neq30 size23 size30 size5)
attribute [local simp] length_u8s

/-- What cloneBytes makes of a slice of bytes, called in world w. -/
def cloned (f : Buf) (w : World) : Buf := match f.ao with
  | none => ⟨none, 0, 0, 0, f.bs⟩
  | some _ => ⟨some ⟨w.heap.size, 0, none⟩, f.bs.length, w.heap.size, 0, f.bs⟩

theorem c37 (f : Buf) (w : World) (hf : f.Lies w) :
    Calls Try.prog 37 #[f.val] w fun e w' => e = .returned (cloned f w).val ∧ ((cloned f w).Lies w' ∧ Below w.heap.size w w') := by
  obtain ⟨ao, cap, b, off, bs⟩ := f
  cases ao with
  | none =>
    have hz : bs = [] := by
      rcases Nat.eq_zero_or_pos bs.length with h | h
      · exact List.eq_nil_of_length_eq_zero h
      · have := (hf.addr (by show bs.length ≠ 0; omega)).1; cases this
    subst hz
    obtain rfl : cap = 0 := hf.nil rfl
    refine (c37_nil w).mono ?_
    rintro e w' ⟨rfl, rfl⟩
    exact ⟨rfl, ⟨fun h => absurd rfl h, fun j v hv => by simp [cloned, u8s] at hv, fun _ => rfl, Nat.zero_le _⟩, Below.refl _ _⟩
  | some A =>
    have hs : bs.length ≤ 1048576 := hf.small
    refine (c37_made A cap b off bs w hs (fun h => by simpa using hf.addr h) hf.row).mono ?_
    rintro e w' ⟨rfl, h1, h2, h3⟩
    exact ⟨rfl, ⟨fun _ => ⟨rfl, h2⟩, h1, (fun h => by cases h), hs⟩, h3⟩

theorem cloned_bs (f : Buf) (w : World) : (cloned f w).bs = f.bs := by unfold cloned; split <;> rfl
theorem cloned_nil (f : Buf) (w : World) : (cloned f w).ao.isNone = f.ao.isNone := by unfold cloned; split <;> simp_all
theorem cloned_new (f : Buf) (w : World) (h : f.Lies w) : (cloned f w).bs.length ≠ 0 → (cloned f w).b = w.heap.size := by
  unfold cloned
  split
  · intro hn
    have := (h.addr hn).1
    simp_all
  · intro _; rfl

/-- A ciphertext's row. -/
structure Ct where
  rek : List UInt8
  buf : Buf
def ctCells (c : Ct) : List Value := u8s c.rek ++ [c.buf.val]
theorem length_ct {c : Ct} (h : c.rek.length = 32) : (ctCells c).length = 33 := by simp [ctCells, h]
theorem one_ct (c : Ct) : ∀ v ∈ ctCells c, v.oneCell' = true := by
  intro v hv
  simp only [ctCells, List.mem_append, List.mem_singleton] at hv
  rcases hv with hv | rfl
  · exact one_u8s _ v hv
  · rfl
/-- The same ciphertext: its key, its bytes, nil against empty. -/
structure Same (c d : Ct) : Prop where
  rek : c.rek = d.rek
  bs : c.buf.bs = d.buf.bs
  nil : c.buf.ao.isNone = d.buf.ao.isNone
theorem Same.refl (c : Ct) : Same c c := ⟨rfl, rfl, rfl⟩

/-- The ciphertexts lie one behind the other from offset 'off' of block b on; their bytes where they lead. -/
structure CtsAt (w : World) (b off : Nat) (cts : List Ct) : Prop where
  row : ∀ i (h : i < cts.length), w.rangeAt b (off + i * 33) (ctCells cts[i])
  buf : ∀ i (h : i < cts.length), cts[i].buf.Lies w
  rek : ∀ i (h : i < cts.length), cts[i].rek.length = 32

def z68 : List Value := List.replicate 32 (.int .u8 0) ++ [.slice none 0 0]
theorem zero68 (w : World) : (zeroValue 68).run Try.prog w = .ok (.agg z68.toArray) w := by kernel_rfl
theorem length_z68 : z68.length = 33 := by kernel_rfl
theorem size68 : (Try.prog.info? 68).map (·.size) = some 33 := by kernel_rfl
theorem sz80 (w : World) : (sizeOf 80).run Try.prog w = .ok 33 w := by kernel_rfl
theorem sz68 (w : World) : (sizeOf 68).run Try.prog w = .ok 33 w := by kernel_rfl
theorem info68 : (Try.prog.info? 68).map (fun i => (i.zero, i.size, i.bytes)) = some (some (.agg z68.toArray), 33, 56) := by kernel_rfl

theorem build68 (w : World) (a : List UInt8) (v : Value) (hv : v.cells = #[v]) (ha : a.length = 32) :
    (Instr.build 68 #[(0, .agg (u8s a).toArray), (1, v)]).run Try.prog w = .ok (.agg (u8s a ++ [v]).toArray) w := by
  refine build_run 68 _ _ _ #[(0, 32), (32, 1)] _ (zero68 w) Try.underlying68 (by kernel_rfl) ?_
  show Instr.fill _ z68.toArray _ = _
  have e1 := fill_next (#[(0, 32), (32, 1)][·]?) [] (u8s a) z68 0 (.agg (u8s a).toArray) [(1, v)] (by simp [ha]) rfl (by simp [ha, length_z68])
  have e2 := fill_next (#[(0, 32), (32, 1)][·]?) (u8s a) [v] (z68.drop 32) 1 v [] (by simp [ha]) hv (by simp [length_z68])
  simp only [List.nil_append, length_u8s, ha] at e1
  rw [e1, e2, Instr.fill]
  simp [length_z68]

theorem exec_build68 {op : Oper} {a : Act} {w : World} (x y : Operand) (ho : op.op = .build 68 #[(0, x), (1, y)]) (c : Ct) (hc : c.rek.length = 32) (hx : a.eval x = .agg (u8s c.rek).toArray) (hy : a.eval y = c.buf.val) :
    (execOp a.eval op).run Try.prog w = .ok (.value (.agg (ctCells c).toArray)) w := by
  have hb := build68 w c.rek c.buf.val rfl hc
  unfold execOp
  simp only [ho, List.map_toArray, List.map_cons, List.map_nil, hx, hy, Sem.run_bind, hb, Result.andThen_ok, Sem.run_pure, ctCells]

/-- Behind some rounds of ctsOf: 'new' is made. -/
structure Filled (cts : List Ct) (g : Nat) (w wr : World) (new : List Ct) : Prop where
  len : new.length ≤ cts.length
  room : ∀ i, i < cts.length → wr.there g (i * 33) 33
  row : ∀ i (h : i < new.length), wr.rangeAt g (i * 33) (ctCells new[i])
  buf : ∀ i (h : i < new.length), new[i].buf.Lies wr ∧ (new[i].buf.bs.length ≠ 0 → g < new[i].buf.b)
  rek : ∀ i (h : i < new.length), new[i].rek.length = 32
  same : ∀ i (h : i < new.length) (h' : i < cts.length), Same new[i] cts[i]
  below : Below g w wr
  size : g < wr.heap.size

theorem Filled.next {cts : List Ct} {g : Nat} {w wr w2 : World} {new : List Ct} (h : Filled cts g w wr new) (hb : Below wr.heap.size wr w2) : Filled cts g w w2 new :=
  ⟨h.len, fun i hi => there_below hb h.size (h.room i hi), fun i hi => rangeAt_below hb h.size (h.row i hi), fun i hi => ⟨(h.buf i hi).1.below hb (fun hn => ((h.buf i hi).1.addr hn).2), (h.buf i hi).2⟩, h.rek, h.same,
    h.below.trans (hb.mono (Nat.le_of_lt h.size)), Nat.lt_of_lt_of_le h.size hb.size⟩

theorem there_setCells' {w : World} {b' o' n : Nat} (h : w.there b' o' n) (b o : Nat) (vs : List Value) : (w.setCells b o vs).there b' o' n := World.there_setCells h b o vs

/-- A buffer that lies in another block stays. -/
theorem Buf.Lies.setCells {f : Buf} {w : World} (h : f.Lies w) (b o : Nat) (vs : List Value) (hb : f.bs.length ≠ 0 → f.b ≠ b) : f.Lies (w.setCells b o vs) := by
  refine ⟨fun hn => ⟨(h.addr hn).1, by rw [size_setCells]; exact (h.addr hn).2⟩, ?_, h.nil, h.small⟩
  by_cases hn : f.bs.length = 0
  · have : f.bs = [] := List.eq_nil_of_length_eq_zero hn
    intro j v hv
    rw [this] at hv
    simp [u8s] at hv
  · exact World.rangeAt_setCells_apart h.row _ _ _ (Or.inl (hb hn))

theorem Filled.put {cts : List Ct} {g : Nat} {w wr : World} {new : List Ct} (h : Filled cts g w wr new) (hk : new.length < cts.length) (c : Ct) (hc : Same c cts[new.length]) (hr : c.rek.length = 32)
    (hl : c.buf.Lies wr) (hb : c.buf.bs.length ≠ 0 → g < c.buf.b) : Filled cts g w (wr.setCells g (new.length * 33) (ctCells c)) (new ++ [c]) := by
  refine ⟨by simp; omega, fun i hi => World.there_setCells (h.room i hi) _ _ _, fun i hi => ?_, fun i hi => ?_, fun i hi => ?_, fun i hi hi' => ?_, below_setCells g (Nat.le_refl _) _ _ _ h.below, by rw [size_setCells]; exact h.size⟩
  · by_cases e : i < new.length
    · rw [List.getElem_append_left e]
      refine World.rangeAt_setCells_apart (h.row i e) _ _ _ (Or.inr (Or.inl ?_))
      rw [length_ct (h.rek i e)]
      omega
    · have : i = new.length := by simp at hi; omega
      subst this
      rw [List.getElem_append_right (Nat.le_refl _)]
      simp only [Nat.sub_self, List.getElem_cons_zero]
      exact World.rangeAt_setCells_same _ _ _ _ (by rw [length_ct hr]; exact h.room _ hk)
  · by_cases e : i < new.length
    · rw [List.getElem_append_left e]
      refine ⟨(h.buf i e).1.setCells _ _ _ (fun hn => ?_), (h.buf i e).2⟩
      have := (h.buf i e).2 hn
      omega
    · have : i = new.length := by simp at hi; omega
      subst this
      rw [List.getElem_append_right (Nat.le_refl _)]
      simp only [Nat.sub_self, List.getElem_cons_zero]
      refine ⟨hl.setCells _ _ _ (fun hn => ?_), hb⟩
      have := hb hn
      omega
  · by_cases e : i < new.length
    · rw [List.getElem_append_left e]; exact h.rek i e
    · have : i = new.length := by simp at hi; omega
      subst this
      rw [List.getElem_append_right (Nat.le_refl _)]
      simpa using hr
  · by_cases e : i < new.length
    · rw [List.getElem_append_left e]; exact h.same i e hi'
    · have : i = new.length := by simp at hi; omega
      subst this
      rw [List.getElem_append_right (Nat.le_refl _)]
      simpa using hc

end Go.Proofs.Qxb6604552a.Pend
