import Derived.Test.Qxb6604552aLed
namespace Go.Proofs.Qxb6604552a.Pend
open Go.RowKit Mid
attribute [local simp] length_u8s

/-- A new block of as many cells as are then stored into it. -/
theorem laid (w : World) (z cs : List Value) (t : TypeId) (hl : z.length = cs.length) :
    ((w.alloc (.cells z.toArray t)).setCells w.heap.size 0 cs).rangeAt w.heap.size 0 cs ∧ Below w.heap.size w ((w.alloc (.cells z.toArray t)).setCells w.heap.size 0 cs) ∧ ((w.alloc (.cells z.toArray t)).setCells w.heap.size 0 cs).heap.size = w.heap.size + 1 ∧ (w.alloc (.cells z.toArray t)).there w.heap.size 0 cs.length
      ∧ ((w.alloc (.cells z.toArray t)).setCells w.heap.size 0 cs).there w.heap.size 0 cs.length := by
  have ht : (w.alloc (.cells z.toArray t)).there w.heap.size 0 cs.length := by
    have := there_new w z.toArray t
    simpa [hl] using this
  exact ⟨World.rangeAt_setCells_same _ _ _ _ ht, below_setCells _ (Nat.le_refl _) _ _ _ ((Below.refl _ _).alloc (Nat.le_refl _) _), by rw [size_setCells]; simp, ht, World.there_setCells ht _ _ _⟩

theorem one_z59 : ∀ x ∈ z59, x.oneCell' = true := by
  intro x hx
  simp only [z59, z57, List.mem_append, List.mem_cons, List.mem_replicate, List.not_mem_nil, or_false] at hx
  rcases hx with ((⟨_, rfl⟩ | ((rfl | rfl) | ⟨_, rfl⟩) | rfl) | rfl) <;> rfl

set_option maxRecDepth 100000 in
set_option maxHeartbeats 400000 in
theorem c19_none (bl : Nat) (w : World) (hl : bl < w.heap.size) (hc : w.cell? ⟨bl, 73, none⟩ = some (.pointer none)) :
    Calls Try.prog 19 #[.pointer (some ⟨bl, 0, none⟩)] w fun e w' => e = .returned (.tuple #[.agg z59.toArray, .bool false]) ∧ Below w.heap.size w w' := by
  have hz := zero59
  obtain ⟨r0, b0, s0, t0, _⟩ := laid w z59 z59 59 rfl
  have hc1 : (w.alloc (.cells z59.toArray 59)).cell? ⟨bl, 73, none⟩ = some (.pointer none) := by rw [World.cell?_alloc_past _ _ _ hl]; exact hc
  go_enter Try.func19, Try.ntmps19
  go_wp2_with (first
    | (with_reducible show wpList _ _ _ (⟨_, .build 59 _, _, _, _, _⟩ :: _) _ _; refine wpL_build rfl 59 [] rfl [] rfl _ (build59_zero _) ?_)
    | (with_reducible show wpList _ _ _ (⟨_, .store 59 _ _, _, _, _, _⟩ :: _) _ _; refine wpL_store rfl 59 _ _ rfl w.heap.size 0 z59 rfl rfl t0 (by rw [size59, length_z59]) one_z59 ?_))
  refine bodyPost_ret (v := .tuple #[.agg z59.toArray, .bool false]) ?_ rfl ⟨rfl, ?_⟩
  · exact results_mid2 Try.results19 _ _ w.heap.size 0 z59 _ rfl r0 Try.underlying59 rfl (by rw [size59, length_z59])
  · exact b0

theorem heap_setCells_other {b k : Nat} (hk : k ≠ b) : ∀ (vs : List Value) (o : Nat) (w : World), (w.setCells b o vs).heap[k]? = w.heap[k]?
  | [], _, _ => rfl
  | v :: vs, o, w => by rw [World.setCells, heap_setCells_other hk vs (o + 1), heap_setCell_other _ _ _ _ hk]
theorem rangeAt_block {w w' : World} {b o : Nat} {cs : List Value} (hb : w'.heap[b]? = w.heap[b]?) (h : w.rangeAt b o cs) : w'.rangeAt b o cs := fun j v hv => by
  rw [World.cell?_of_block (w := w) (by exact hb)]; exact h j v hv
theorem there_block {w w' : World} {b o n : Nat} (hb : w'.heap[b]? = w.heap[b]?) (h : w.there b o n) : w'.there b o n := fun j hj => by
  rw [World.cell?_of_block (w := w) (by exact hb), World.frozen?_of_block (w := w) (by exact hb)]; exact h j hj
theorem CtsLie.move {w w' : World} {k : Loc} {cts : List Ct} (h : CtsLie w k cts) (hb : cts.length ≠ 0 → w'.heap[k.b]? = w.heap[k.b]?) (hs : w.heap.size ≤ w'.heap.size) (hbuf : ∀ i (hi : i < cts.length), cts[i].buf.Lies w') : CtsLie w' k cts :=
  ⟨fun hn => ⟨(h.addr hn).1, Nat.lt_of_lt_of_le (h.addr hn).2 hs⟩, ⟨fun i hi => rangeAt_block (hb (by omega)) (h.rows.row i hi), hbuf, h.rows.rek⟩, h.nil⟩
theorem ValsLie.move {w w' : World} {k : Loc} {vals : List (List UInt8)} (h : ValsLie w k vals) (hb : vals.length ≠ 0 → w'.heap[k.b]? = w.heap[k.b]?) (hs : w.heap.size ≤ w'.heap.size) : ValsLie w' k vals :=
  ⟨fun hn => ⟨(h.addr hn).1, Nat.lt_of_lt_of_le (h.addr hn).2 hs⟩, ⟨fun i hi => rangeAt_block (hb (by omega)) (h.rows.row i hi), h.rows.len⟩, h.nil⟩
theorem Room.move {w w' : World} {k : Loc} {n size : Nat} (h : Room w k n size) (hb : n ≠ 0 → w'.heap[k.b]? = w.heap[k.b]?) : Room w' k n size := fun i hi => there_block (hb (by omega)) (h i hi)
theorem bufs_below {w w' : World} {l : Loc} {cts : List Ct} (h : CtsLie w l cts) (hb : Below w.heap.size w w') : ∀ i (hi : i < cts.length), cts[i].buf.Lies w' := fun i hi => (h.rows.buf i hi).below hb (fun hn => ((h.rows.buf i hi).addr hn).2)

/-- What Pending hands out: the row's own copy of the two slices. -/
structure Out (w w' : World) (p : Pd) (l1 l2 k1 k2 : Loc) (cts : List Ct) (vals : List (List UInt8)) : Prop where
  nil1 : k1.ao.isNone = l1.ao.isNone
  nil2 : k2.ao.isNone = l2.ao.isNone
  hcts : CtsLie w' k1 cts
  hvals : ValsLie w' k2 vals
  room1 : Room w' k1 cts.length 33
  room2 : Room w' k2 vals.length 32
  new1 : cts.length ≠ 0 → w.heap.size ≤ k1.b ∧ k1.off = 0
  new2 : vals.length ≠ 0 → w.heap.size ≤ k2.b ∧ k2.off = 0
  below : Below w.heap.size w w'

set_option maxRecDepth 100000 in
set_option maxHeartbeats 1000000 in
theorem c19 (bl bp : Nat) (p : Pd) (hp : p.Ok) (l1 l2 : Loc) (cts : List Ct) (vals : List (List UInt8)) (w : World) (hl : bl < w.heap.size) (hc : w.cell? ⟨bl, 73, none⟩ = some (.pointer (some ⟨bp, 0, none⟩)))
    (h : PendAt w bp p l1 l2 cts vals) (hn1 : cts.length ≤ 65536) (hn2 : vals.length ≤ 65536) :
    Calls Try.prog 19 #[.pointer (some ⟨bl, 0, none⟩)] w fun e w' => ∃ k1 k2 : Loc, e = .returned (.tuple #[.agg (pcells p (k1.val cts.length) (k2.val vals.length)).toArray, .bool true]) ∧ Out w w' p l1 l2 k1 k2 cts vals := by
  have hz := zero59
  have hc1 : (w.alloc (.cells z59.toArray 59)).cell? ⟨bl, 73, none⟩ = some (.pointer (some ⟨bp, 0, none⟩)) := by rw [World.cell?_alloc_past _ _ _ hl]; exact hc
  have B0 : Below w.heap.size w (w.alloc (.cells z59.toArray 59)) := (Below.refl _ _).alloc (Nat.le_refl _) _
  have S0 : (w.alloc (.cells z59.toArray 59)).heap.size = w.heap.size + 1 := by simp
  have T0 : (w.alloc (.cells z59.toArray 59)).there w.heap.size 0 100 := by have := there_new w z59.toArray 59; simpa [length_z59] using this
  have H0 := h.below B0 (Nat.le_refl _)
  go_enter Try.func19, Try.ntmps19
  go_upto_region 1 with fail
  generalize hw0 : w.alloc (.cells z59.toArray 59) = w0 at *
  clear hw0
  have hlen := length_pcells hp (l1.val cts.length) (l2.val vals.length)
  obtain ⟨r1, b1, s1, t1, t1'⟩ := laid w0 z59 (pcells p (l1.val cts.length) (l2.val vals.length)) 59 (by rw [length_z59, hlen])
  rw [S0] at r1 b1 s1 t1 t1'
  have hR0 := H0.row
  go_upto_region 4 with (first
    | (with_reducible show wpList _ _ _ (⟨_, .load 59 _, _, _, _, _⟩ :: _) _ _; refine wpL_load rfl 59 _ rfl bp 0 rfl (pcells p (l1.val cts.length) (l2.val vals.length)) _ hR0 Try.underlying59 rfl (by rw [size59, hlen]) ?_)
    | (with_reducible show wpList _ _ _ (⟨_, .store 59 _ _, _, _, _, _⟩ :: _) _ _; refine wpL_store rfl 59 _ _ rfl (w.heap.size + 1) 0 (pcells p (l1.val cts.length) (l2.val vals.length)) rfl rfl t1 (by rw [size59, hlen]) (one_pcells rfl rfl) ?_))
  have H1 := H0.below b1 (by omega)
  have T1 := there_below b1 (by omega) T0
  have P1 := pparts_of hp r1
  have B1 : Below w.heap.size w _ := B0.trans (b1.mono (by omega))
  clear hc1 hR0 r1 t1 b1 H0 T0
  generalize hw1 : (w0.alloc (.cells z59.toArray 59)).setCells (w.heap.size + 1) 0 (pcells p (l1.val cts.length) (l2.val vals.length)) = w1 at *
  clear hw1
  have q98 := P1.cts
  go_wp2_with fail
  refine (c33 l1 cts w1 hn1 H1.cts).mono ?_
  rintro e w2 ⟨k1, rfl, hk1, hL1, hR1, hN1, b2⟩
  rw [s1] at b2 hN1
  have P2 : PParts w2 (w.heap.size + 1) p (l1.val cts.length) (l2.val vals.length) := pparts_of hp (rangeAt_below b2 (by omega) (pparts_join hp P1))
  have t2 := there_below b2 (by omega) t1'
  have T2 := there_below b2 (by omega) T1
  have H2 := H1.vals.below b2 (by omega)
  have B2 : Below w.heap.size w w2 := B1.trans (b2.mono (by omega))
  have s2 : w.heap.size + 2 ≤ w2.heap.size := by have := b2.size; omega
  have P3 := pparts_put1 hp P2 (.slice k1.ao cts.length k1.cap)
  have q98' := P2.cts
  have f98 : w2.frozen? ⟨w.heap.size + 1, 98, none⟩ = false := by have := (t2 98 (by rw [hlen]; omega)).2; simpa using this
  clear P1 q98 H1 t1' T1 b2
  go_upto_region 5 with fail
  have B3 : Below w.heap.size w (w2.setCell ⟨w.heap.size + 1, 98, none⟩ (.slice k1.ao cts.length k1.cap)) := B2.setCell (by simp) _
  have S3 : (w2.setCell ⟨w.heap.size + 1, 98, none⟩ (.slice k1.ao cts.length k1.cap)).heap.size = w2.heap.size := by simp [World.setCell]
  have O3 : ∀ k, k ≠ w.heap.size + 1 → (w2.setCell ⟨w.heap.size + 1, 98, none⟩ (.slice k1.ao cts.length k1.cap)).heap[k]? = w2.heap[k]? := fun k hk => heap_setCell_other _ _ _ _ hk
  have L3 := hL1.move (fun hn => O3 _ (by have := (hN1 hn).1; omega)) (by rw [S3]; exact Nat.le_refl _) (bufs_below h.cts B3)
  have R3 := hR1.move (fun hn => O3 _ (by have := (hN1 hn).1; omega))
  have t3 := World.there_setCells t2 (w.heap.size + 1) 98 [.slice k1.ao cts.length k1.cap]
  rw [← setCells_one] at t3
  have T3 := there_block (O3 w.heap.size (by omega)) T2
  have H3 := h.vals.below B3 (Nat.le_refl _)
  clear hL1 hR1 P2 t2 T2 H2 B2 q98' f98 O3
  generalize hw3 : w2.setCell ⟨w.heap.size + 1, 98, none⟩ (.slice k1.ao cts.length k1.cap) = w3 at *
  clear hw3
  have q99 := P3.conf
  go_wp2_with fail
  refine (c34 l2 vals w3 hn2 H3).mono ?_
  rintro e w4 ⟨k2, rfl, hk2, hL2, hR2, hN2, b4⟩
  rw [S3] at b4 hN2
  have P4 : PParts w4 (w.heap.size + 1) p (.slice k1.ao cts.length k1.cap) (l2.val vals.length) := pparts_of hp (rangeAt_below b4 (by omega) (pparts_join hp P3))
  have t4 := there_below b4 (by omega) t3
  have T4 := there_below b4 (by omega) T3
  have L4 := L3.below b4 (by rw [S3]; exact Nat.le_refl _)
  have R4 := R3.below b4 (fun hn => by have := (L3.addr hn).2; omega)
  have B4 : Below w.heap.size w w4 := B3.trans (b4.mono (by omega))
  have s4 : w2.heap.size ≤ w4.heap.size := by have := b4.size; omega
  have P5 := pparts_put2 hp P4 (.slice k2.ao vals.length k2.cap)
  have q99' := P4.conf
  have f99 : w4.frozen? ⟨w.heap.size + 1, 99, none⟩ = false := by have := (t4 99 (by rw [hlen]; omega)).2; simpa using this
  clear P3 q99 H3 t3 T3 b4 L3 R3
  go_upto_region 6 with fail
  have B5 : Below w.heap.size w (w4.setCell ⟨w.heap.size + 1, 99, none⟩ (.slice k2.ao vals.length k2.cap)) := B4.setCell (by simp) _
  have S5 : (w4.setCell ⟨w.heap.size + 1, 99, none⟩ (.slice k2.ao vals.length k2.cap)).heap.size = w4.heap.size := by simp [World.setCell]
  have O5 : ∀ k, k ≠ w.heap.size + 1 → (w4.setCell ⟨w.heap.size + 1, 99, none⟩ (.slice k2.ao vals.length k2.cap)).heap[k]? = w4.heap[k]? := fun k hk => heap_setCell_other _ _ _ _ hk
  have L5 := L4.move (fun hn => O5 _ (by have := (hN1 hn).1; omega)) (by rw [S5]; exact Nat.le_refl _) (bufs_below h.cts B5)
  have R5 := R4.move (fun hn => O5 _ (by have := (hN1 hn).1; omega))
  have M5 := hL2.move (fun hn => O5 _ (by have := (hN2 hn).1; omega)) (by rw [S5]; exact Nat.le_refl _)
  have U5 := hR2.move (fun hn => O5 _ (by have := (hN2 hn).1; omega))
  have T5 := there_block (O5 w.heap.size (by omega)) T4
  clear hL2 hR2 P4 t4 T4 B4 q99' f99 O5 L4 R4
  generalize hw5 : w4.setCell ⟨w.heap.size + 1, 99, none⟩ (.slice k2.ao vals.length k2.cap) = w5 at *
  clear hw5
  have r5 := pparts_join hp P5
  have hlen5 := length_pcells hp (.slice k1.ao cts.length k1.cap) (.slice k2.ao vals.length k2.cap)
  go_wp2_with (first
    | (with_reducible show wpList _ _ _ (⟨_, .load 59 _, _, _, _, _⟩ :: _) _ _; refine wpL_load rfl 59 _ rfl (w.heap.size + 1) 0 rfl (pcells p (.slice k1.ao cts.length k1.cap) (.slice k2.ao vals.length k2.cap)) _ r5 Try.underlying59 rfl (by rw [size59, hlen5]) ?_)
    | (with_reducible show wpList _ _ _ (⟨_, .store 59 _ _, _, _, _, _⟩ :: _) _ _; refine wpL_store rfl 59 _ _ rfl w.heap.size 0 (pcells p (.slice k1.ao cts.length k1.cap) (.slice k2.ao vals.length k2.cap)) rfl rfl (by rw [hlen5]; exact T5) (by rw [size59, hlen5]) (one_pcells rfl rfl) ?_))
  have O6 : ∀ k, k ≠ w.heap.size → (w5.setCells w.heap.size 0 (pcells p (.slice k1.ao cts.length k1.cap) (.slice k2.ao vals.length k2.cap))).heap[k]? = w5.heap[k]? := fun k hk => heap_setCells_other hk _ _ _
  have S6 : (w5.setCells w.heap.size 0 (pcells p (.slice k1.ao cts.length k1.cap) (.slice k2.ao vals.length k2.cap))).heap.size = w5.heap.size := size_setCells _ _ _ _
  have B6 := below_setCells w.heap.size (Nat.le_refl _) (pcells p (.slice k1.ao cts.length k1.cap) (.slice k2.ao vals.length k2.cap)) 0 w5 B5
  refine bodyPost_ret (v := .tuple #[.agg (pcells p (.slice k1.ao cts.length k1.cap) (.slice k2.ao vals.length k2.cap)).toArray, .bool true]) ?_ rfl ⟨k1, k2, rfl, ?_⟩
  · exact results_mid2 Try.results19 _ _ w.heap.size 0 (pcells p (.slice k1.ao cts.length k1.cap) (.slice k2.ao vals.length k2.cap)) _ rfl (World.rangeAt_setCells_same _ _ _ _ (by rw [hlen5]; exact T5)) Try.underlying59 rfl (by rw [size59, hlen5])
  · exact ⟨hk1, hk2, L5.move (fun hn => O6 _ (by have := (hN1 hn).1; omega)) (by rw [S6]; exact Nat.le_refl _) (bufs_below h.cts B6), M5.move (fun hn => O6 _ (by have := (hN2 hn).1; omega)) (by rw [S6]; exact Nat.le_refl _),
      R5.move (fun hn => O6 _ (by have := (hN1 hn).1; omega)), U5.move (fun hn => O6 _ (by have := (hN2 hn).1; omega)), fun hn => ⟨by have := (hN1 hn).1; omega, (hN1 hn).2⟩, fun hn => ⟨by have := (hN2 hn).1; omega, (hN2 hn).2⟩, B6⟩

end Go.Proofs.Qxb6604552a.Pend
