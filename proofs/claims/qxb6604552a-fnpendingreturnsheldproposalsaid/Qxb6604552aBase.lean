import Derived.Test.Qxb6604552aZz
import Derived.Test.Qxb6604552aMatches
namespace Go.Proofs.Qxb6604552a.Pend
open Go.RowKit Mid
open Go.Proofs.Qxb6604552a.Node (wpL_load30 wpL_eql30 wpL_neq30 size23 size30 size5)
attribute [local simp] length_u8s

theorem CtsOpen.below {w w' : World} {l : Loc} {cts : List Ct} {B : Nat} (h : CtsOpen w l cts) (hb : Below B w w') (hB : w.heap.size ≤ B) : CtsOpen w' l cts := by
  refine ⟨fun hn => ⟨(h.addr hn).1, Nat.lt_of_lt_of_le (h.addr hn).2 hb.size⟩, fun i hi => rangeAt_below hb (Nat.lt_of_lt_of_le (h.addr (by omega)).2 hB) (h.row i hi),
    fun i hi hn => ⟨(h.bufAddr i hi hn).1, Nat.lt_of_lt_of_le (h.bufAddr i hi hn).2 hb.size⟩, fun i hi => ?_, h.bufNil, h.rek, h.nil⟩
  by_cases hn : cts[i].buf.bs.length = 0
  · have : cts[i].buf.bs = [] := List.eq_nil_of_length_eq_zero hn
    intro j v hv
    rw [this] at hv
    simp [u8s] at hv
  · exact rangeAt_below hb (Nat.lt_of_lt_of_le (h.bufAddr i hi hn).2 hB) (h.bufRow i hi)

/-- What stays known all along a law's walk: the three boxes, the arguments' memory. -/
structure Base (w : World) (p : Pd) (l1 l2 : Loc) (cts : List Ct) (vals : List (List UInt8)) (w' : World) : Prop where
  prop : w'.rangeAt w.heap.size 0 (u8s p.prop)
  chk : w'.rangeAt (w.heap.size + 1) 0 (u8s p.chk)
  sig : w'.rangeAt (w.heap.size + 1 + 1) 0 (u8s p.sig)
  cts : CtsOpen w' l1 cts
  vals : ValsLie w' l2 vals
  below : Below w.heap.size w w'
  size : w.heap.size + 3 ≤ w'.heap.size

theorem Base.next {w w' w'' : World} {p : Pd} {l1 l2 : Loc} {cts : List Ct} {vals : List (List UInt8)} {B : Nat} (h : Base w p l1 l2 cts vals w') (hb : Below B w' w'') (hB : w'.heap.size ≤ B) : Base w p l1 l2 cts vals w'' := by
  have := h.size
  exact ⟨rangeAt_below hb (by omega) h.prop, rangeAt_below hb (by omega) h.chk, rangeAt_below hb (by omega) h.sig, h.cts.below hb hB, h.vals.below hb hB, h.below.trans (hb.mono (by omega)), Nat.le_trans h.size hb.size⟩

theorem base_start (w : World) (p : Pd) {l1 l2 : Loc} {cts : List Ct} {vals : List (List UInt8)} (h1 : CtsOpen w l1 cts) (h2 : ValsLie w l2 vals) : Base w p l1 l2 cts vals (three w p) := by
  have r0 := World.rangeAt_alloc (World.rangeAt_alloc (rangeAt_new w (u8s p.prop) 23) (.cells (u8s p.chk).toArray 23)) (.cells (u8s p.sig).toArray 23)
  have r1 := World.rangeAt_alloc (rangeAt_new (w.alloc (.cells (u8s p.prop).toArray 23)) (u8s p.chk) 23) (.cells (u8s p.sig).toArray 23)
  have r2 := rangeAt_new ((w.alloc (.cells (u8s p.prop).toArray 23)).alloc (.cells (u8s p.chk).toArray 23)) (u8s p.sig) 23
  simp only [World.size_alloc] at r1 r2
  have B := three_below w p
  exact ⟨r0, r1, r2, h1.below B (Nat.le_refl _), h2.below B (Nat.le_refl _), B, by simp [three]⟩

theorem build68_zero (w : World) : (Instr.build 68 #[]).run Try.prog w = .ok (.agg z68.toArray) w :=
  build_run 68 _ _ _ #[(0, 32), (32, 1)] _ (zero68 w) Try.underlying68 (by kernel_rfl) rfl
def zid : List UInt8 := List.replicate 32 0
theorem build30_zero (w : World) : (Instr.build 30 #[]).run Try.prog w = .ok (.agg (u8s zid).toArray) w := by kernel_rfl
theorem length_zid : zid.length = 32 := rfl
theorem one_z68 : ∀ x ∈ z68, x.oneCell' = true := by
  intro x hx
  simp only [z68, List.mem_append, List.mem_cons, List.mem_replicate, List.not_mem_nil, or_false] at hx
  rcases hx with (⟨_, rfl⟩ | rfl) <;> rfl

/-- Overwriting what was handed out. -/
structure Wr (w3 : World) (b16 : Nat) (k1 k2 : Loc) (n m : Nat) (wr : World) : Prop where
  below : Below w3.heap.size w3 wr
  c98 : wr.cell? ⟨b16, 98, none⟩ = some (.slice k1.ao n k1.cap)
  c99 : wr.cell? ⟨b16, 99, none⟩ = some (.slice k2.ao m k2.cap)
  room1 : Room wr k1 n 33
  room2 : Room wr k2 m 32

theorem Wr.put {w3 : World} {b16 : Nat} {k1 k2 : Loc} {n m : Nat} {wr : World} (h : Wr w3 b16 k1 k2 n m wr) (g o : Nat) (vs : List Value) (hg : w3.heap.size ≤ g) (hne : g ≠ b16) : Wr w3 b16 k1 k2 n m (wr.setCells g o vs) :=
  ⟨below_setCells g hg _ _ _ h.below, by rw [World.cell?_setCells_out _ _ _ _ _ (fun h _ => absurd h (by exact fun e => hne e.symm))]; exact h.c98, by rw [World.cell?_setCells_out _ _ _ _ _ (fun h _ => absurd h (by exact fun e => hne e.symm))]; exact h.c99,
    fun i hi => World.there_setCells (h.room1 i hi) _ _ _, fun i hi => World.there_setCells (h.room2 i hi) _ _ _⟩

theorem c21' (p : Pd) (hp : p.Ok) (l1 l2 k1 k2 : Loc) (cts new : List Ct) (vals : List (List UInt8)) (w : World) (hn1 : cts.length ≤ 65536) (hn2 : vals.length ≤ 65536)
    (hs : SameAll new cts) (z1 : k1.ao.isNone = l1.ao.isNone) (z2 : k2.ao.isNone = l2.ao.isNone) (a1 : CtsLie w l1 cts) (a2 : ValsLie w l2 vals) (g1 : CtsLie w k1 new) (g2 : ValsLie w k2 vals) :
    Calls Try.prog 21 #[.agg (pcells p (k1.val new.length) (k2.val vals.length)).toArray, .agg (u8s p.prop).toArray, .int .u64 p.gen, .int .u64 p.ep, .agg (u8s p.chk).toArray, .agg (u8s p.sig).toArray, l1.val cts.length, l2.val vals.length] w
      fun e w' => e = .returned (.bool true) ∧ Below w.heap.size w w' := by
  rw [hs.len]
  exact c21 p hp l1 l2 k1 k2 cts new vals w hn1 hn2 hs z1 z2 a1 a2 g1 g2

end Go.Proofs.Qxb6604552a.Pend
