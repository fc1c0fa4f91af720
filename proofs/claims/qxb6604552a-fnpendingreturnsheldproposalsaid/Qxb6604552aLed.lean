import Derived.Test.Qxb6604552aPend
namespace Go.Proofs.Qxb6604552a.Pend
open Go.RowKit Mid
open Go.Proofs.Qxb6604552a.Stale (zLed zLed_size zero95)
attribute [local simp] length_u8s

set_option maxRecDepth 100000 in
set_option maxHeartbeats 400000 in
theorem c18 (q : Option Addr) (w : World) :
    Calls Try.prog 18 #[.pointer q] w fun e w' => e = .returned (.pointer (some ⟨w.heap.size, 0, none⟩)) ∧ w'.cell? ⟨w.heap.size, 73, none⟩ = some (.pointer q) ∧ w'.heap.size = w.heap.size + 1 ∧ Below w.heap.size w w' := by
  have hz := zero95
  have hs := zLed_size
  go_enter Try.func18, Try.ntmps18
  go_wp2
  go_ret
  refine ⟨rfl, ?_, by simp, (Below.refl _ _).alloc (Nat.le_refl _) _⟩
  rw [World.cell?_alloc_at _ _ _ _ rfl]
  simp [zLed_size]

/-- The slice's cells may be written. -/
def Room (w : World) (k : Loc) (n size : Nat) : Prop := ∀ i, i < n → w.there k.b (i * size) size
theorem Room.below {w w' : World} {k : Loc} {n size B : Nat} (h : Room w k n size) (hb : Below B w w') (hB : n ≠ 0 → k.b < B) : Room w' k n size := fun i hi => there_below hb (hB (by omega)) (h i hi)

theorem c33 (l : Loc) (cts : List Ct) (w : World) (hn : cts.length ≤ 65536) (h : CtsLie w l cts) :
    Calls Try.prog 33 #[l.val cts.length] w fun e w' => ∃ k : Loc, e = .returned (.slice k.ao cts.length k.cap) ∧ k.ao.isNone = l.ao.isNone ∧ CtsLie w' k cts ∧ Room w' k cts.length 33 ∧ (cts.length ≠ 0 → w.heap.size ≤ k.b ∧ k.off = 0) ∧ Below w.heap.size w w' := by
  obtain ⟨ao, cap, b, off⟩ := l
  cases ao with
  | none =>
    have hz : cts = [] := by
      rcases Nat.eq_zero_or_pos cts.length with h1 | h1
      · exact List.eq_nil_of_length_eq_zero h1
      · have := (h.addr (by omega)).1; cases this
    subst hz
    obtain rfl : cap = 0 := h.nil rfl
    refine (c33_nil w).mono ?_
    rintro e w' ⟨rfl, rfl⟩
    exact ⟨⟨none, 0, 0, 0⟩, rfl, rfl, ⟨fun h => absurd rfl h, ⟨fun i hi => by simp at hi, fun i hi => by simp at hi, fun i hi => by simp at hi⟩, fun _ => rfl⟩, fun i hi => by simp at hi, fun h => absurd rfl h, Below.refl _ _⟩
  | some A =>
    have hrows : ∀ r ∈ cts.map ctCells, r.length = 33 := by
      intro r hr
      obtain ⟨c, hc, rfl⟩ := List.mem_map.1 hr
      obtain ⟨i, hi, rfl⟩ := List.getElem_of_mem hc
      exact length_ct (h.rows.rek i hi)
    have hflat : w.rangeAt b off (cts.map ctCells).flatten := rangeAt_flat (sz := 33) _ _ (fun i hi => by
      simp only [List.length_map] at hi
      have := h.rows.row i hi
      simpa using this) hrows
    have hone : ∀ u ∈ (cts.map ctCells).flatten, u.oneCell' = true := by
      intro u hu
      obtain ⟨r, hr, hu⟩ := List.mem_flatten.1 hu
      obtain ⟨c, _, rfl⟩ := List.mem_map.1 hr
      exact one_ct c u hu
    have := c33_made A cap b off (cts.map ctCells) w (by simpa using hn) hrows hone (fun hn => by simpa using h.addr (by simpa using hn)) hflat
    simp only [List.length_map] at this
    refine this.mono ?_
    rintro e w' ⟨g, c', rfl, q1, q2, q3, q4, q5⟩
    refine ⟨⟨some ⟨g, 0, none⟩, c', g, 0⟩, rfl, rfl, ⟨fun _ => ⟨rfl, q2⟩, ⟨fun i hi => ?_, fun i hi => (h.rows.buf i hi).below q5 (fun hn => ((h.rows.buf i hi).addr hn).2), h.rows.rek⟩, (fun h => by cases h)⟩, q4, fun _ => ⟨q1, rfl⟩, q5⟩
    have := rangeAt_unflat (sz := 33) _ _ hrows q3 i (by simpa using hi)
    simpa using this

theorem c34 (l : Loc) (vals : List (List UInt8)) (w : World) (hn : vals.length ≤ 65536) (h : ValsLie w l vals) :
    Calls Try.prog 34 #[l.val vals.length] w fun e w' => ∃ k : Loc, e = .returned (.slice k.ao vals.length k.cap) ∧ k.ao.isNone = l.ao.isNone ∧ ValsLie w' k vals ∧ Room w' k vals.length 32 ∧ (vals.length ≠ 0 → w.heap.size ≤ k.b ∧ k.off = 0) ∧ Below w.heap.size w w' := by
  obtain ⟨ao, cap, b, off⟩ := l
  cases ao with
  | none =>
    have hz : vals = [] := by
      rcases Nat.eq_zero_or_pos vals.length with h1 | h1
      · exact List.eq_nil_of_length_eq_zero h1
      · have := (h.addr (by omega)).1; cases this
    subst hz
    obtain rfl : cap = 0 := h.nil rfl
    refine (c34_nil w).mono ?_
    rintro e w' ⟨rfl, rfl⟩
    exact ⟨⟨none, 0, 0, 0⟩, rfl, rfl, ⟨fun h => absurd rfl h, ⟨fun i hi => by simp at hi, fun i hi => by simp at hi⟩, fun _ => rfl⟩, fun i hi => by simp at hi, fun h => absurd rfl h, Below.refl _ _⟩
  | some A =>
    have hrows : ∀ r ∈ vals.map u8s, r.length = 32 := by
      intro r hr
      obtain ⟨c, hc, rfl⟩ := List.mem_map.1 hr
      obtain ⟨i, hi, rfl⟩ := List.getElem_of_mem hc
      rw [length_u8s]
      exact h.rows.len i hi
    have hflat : w.rangeAt b off (vals.map u8s).flatten := rangeAt_flat (sz := 32) _ _ (fun i hi => by
      simp only [List.length_map] at hi
      have := h.rows.row i hi
      simpa using this) hrows
    have hone : ∀ u ∈ (vals.map u8s).flatten, u.oneCell' = true := by
      intro u hu
      obtain ⟨r, hr, hu⟩ := List.mem_flatten.1 hu
      obtain ⟨c, _, rfl⟩ := List.mem_map.1 hr
      exact one_u8s c u hu
    have := c34_made A cap b off (vals.map u8s) w (by simpa using hn) hrows hone (fun hn => by simpa using h.addr (by simpa using hn)) hflat
    simp only [List.length_map] at this
    refine this.mono ?_
    rintro e w' ⟨g, c', rfl, q1, q2, q3, q4, q5⟩
    refine ⟨⟨some ⟨g, 0, none⟩, c', g, 0⟩, rfl, rfl, ⟨fun _ => ⟨rfl, q2⟩, ⟨fun i hi => ?_, h.rows.len⟩, (fun h => by cases h)⟩, q4, fun _ => ⟨q1, rfl⟩, q5⟩
    have := rangeAt_unflat (sz := 32) _ _ hrows q3 i (by simpa using hi)
    simpa using this

theorem pparts_join {w : World} {b : Nat} {p : Pd} {v1 v2 : Value} (hp : p.Ok) (h : PParts w b p v1 v2) : w.rangeAt b 0 (pcells p v1 v2) := by
  have one : ∀ {o : Nat} {v : Value}, w.cell? ⟨b, o, none⟩ = some v → w.rangeAt b o [v] := fun hc j u hu => by
    cases j with
    | zero => simp at hu; subst hu; simpa using hc
    | succ j => simp at hu
  refine rangeAt_append h.prop 32 (by simp [hp.prop]) (rangeAt_append ?_ 99 (by rw [length_p57 hp]) (one h.conf))
  exact rangeAt_append (xs := [_]) (one h.gen) 33 rfl (rangeAt_append (xs := [_]) (one h.ep) 34 rfl (rangeAt_append h.chk 66 (by simp [hp.chk]) (rangeAt_append h.sig 98 (by simp [hp.sig]) (one h.cts))))

theorem setCells_one (w : World) (b o : Nat) (v : Value) : w.setCell ⟨b, o, none⟩ v = w.setCells b o [v] := rfl

/-- The slice of ciphertexts written anew. -/
theorem pparts_put1 {w : World} {b : Nat} {p : Pd} {v1 v2 : Value} (hp : p.Ok) (h : PParts w b p v1 v2) (v : Value) : PParts (w.setCell ⟨b, 98, none⟩ v) b p v v2 :=
  ⟨World.rangeAt_setCells_apart h.prop b 98 [v] (by simp [hp.prop]), by rw [World.cell?_setCell_other _ _ _ _ (by simp)]; exact h.gen, by rw [World.cell?_setCell_other _ _ _ _ (by simp)]; exact h.ep,
   World.rangeAt_setCells_apart h.chk b 98 [v] (by simp [hp.chk]), World.rangeAt_setCells_apart h.sig b 98 [v] (by simp [hp.sig]), World.cell?_setCell_same _ _ _ h.cts, by rw [World.cell?_setCell_other _ _ _ _ (by simp)]; exact h.conf⟩
theorem pparts_put2 {w : World} {b : Nat} {p : Pd} {v1 v2 : Value} (hp : p.Ok) (h : PParts w b p v1 v2) (v : Value) : PParts (w.setCell ⟨b, 99, none⟩ v) b p v1 v :=
  ⟨World.rangeAt_setCells_apart h.prop b 99 [v] (by simp [hp.prop]), by rw [World.cell?_setCell_other _ _ _ _ (by simp)]; exact h.gen, by rw [World.cell?_setCell_other _ _ _ _ (by simp)]; exact h.ep,
   World.rangeAt_setCells_apart h.chk b 99 [v] (by simp [hp.chk]), World.rangeAt_setCells_apart h.sig b 99 [v] (by simp [hp.sig]), by rw [World.cell?_setCell_other _ _ _ _ (by simp)]; exact h.cts, World.cell?_setCell_same _ _ _ h.conf⟩

end Go.Proofs.Qxb6604552a.Pend
