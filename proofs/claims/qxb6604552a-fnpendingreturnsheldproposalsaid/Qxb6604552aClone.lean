import Derived.Test.Qxb6604552aCts
import Derived.Test.Qxb6604552aStaleCalls
namespace Go.Proofs.Qxb6604552a.Pend
open Go.RowKit Mid
open Go.Proofs.Qxb6604552a.Node (wpL_load30 wpL_eql30 wpL_neq30 size23 size30 size5)
attribute [local simp] length_u8s

theorem rangeAt_append {w : World} {b o : Nat} {xs ys : List Value} (hx : w.rangeAt b o xs) (n : Nat) (hn : o + xs.length = n) (hy : w.rangeAt b n ys) : w.rangeAt b o (xs ++ ys) := fun j v hv => by
  by_cases h : j < xs.length
  · rw [List.getElem?_append_left h] at hv; exact hx j v hv
  · rw [List.getElem?_append_right (by omega)] at hv
    have := hy (j - xs.length) v hv
    rw [show o + j = n + (j - xs.length) by omega]; exact this

theorem rangeAt_flat {w : World} {b sz : Nat} : ∀ (rows : List (List Value)) (off : Nat), (∀ i (h : i < rows.length), w.rangeAt b (off + i * sz) rows[i]) → (∀ r ∈ rows, r.length = sz) → w.rangeAt b off rows.flatten
  | [], off, _, _ => fun j v hv => by simp at hv
  | r :: rows, off, h, hl => by
    rw [List.flatten_cons]
    refine rangeAt_append (by have := h 0 (by simp); rw [List.getElem_cons_zero] at this; simpa using this) (off + sz) (by rw [hl r (by simp)]) (rangeAt_flat rows (off + sz) (fun i hi => ?_) (fun r hr => hl r (by simp [hr])))
    have := h (i + 1) (by simpa using hi)
    rw [show off + sz + i * sz = off + (i + 1) * sz by rw [Nat.succ_mul]; omega]
    simpa using this

theorem rangeAt_unflat {w : World} {b sz : Nat} : ∀ (rows : List (List Value)) (off : Nat), (∀ r ∈ rows, r.length = sz) → w.rangeAt b off rows.flatten → ∀ i (h : i < rows.length), w.rangeAt b (off + i * sz) rows[i]
  | [], _, _, _ => fun i hi => by simp at hi
  | r :: rows, off, hl, hr => fun i hi => by
    rw [List.flatten_cons] at hr
    cases i with
    | zero => simpa using rangeAt_left hr
    | succ i =>
      have h2 := rangeAt_right (off + sz) (by rw [hl r (by simp)]) hr
      have := rangeAt_unflat rows (off + sz) (fun r hr => hl r (by simp [hr])) h2 i (by simpa using hi)
      rw [show off + (i + 1) * sz = off + sz + i * sz by rw [Nat.succ_mul]; omega]
      simpa using this

theorem length_flat {sz : Nat} : ∀ (rows : List (List Value)), (∀ r ∈ rows, r.length = sz) → rows.flatten.length = rows.length * sz
  | [], _ => by simp
  | r :: rows, h => by
    rw [List.flatten_cons, List.length_append, length_flat rows (fun r hr => h r (by simp [hr])), h r (by simp), List.length_cons, Nat.succ_mul]
    omega

theorem owns_facts {w : World} {base e size n : Nat} {v : Value} {xs : List Value} (h : w.ownsRow base e size v n xs) (hv : v ≠ .slice none 0 0) :
    ∃ g cap, v = .slice (some ⟨g, 0, none⟩) n cap ∧ base ≤ g ∧ g < w.heap.size ∧ w.rangeAt g 0 xs ∧ ∀ i, i < n → w.there g (i * size) size := by
  obtain ⟨_, h⟩ := h
  rcases h with ⟨h, _⟩ | ⟨g, cap, cur, hv', hg, hh, hnc, hcm, hsz, htk⟩
  · exact absurd h hv
  refine ⟨g, cap, hv', hg, ?_, ?_, ?_⟩
  · rcases Nat.lt_or_ge g w.heap.size with h | h
    · exact h
    · rw [Array.getElem?_eq_none h] at hh; cases hh
  · intro j u hu
    rw [Nat.zero_add, cell_of_row w _ _ cur e (0, 0) hh]
    rw [← htk, List.getElem?_take] at hu
    split at hu
    · simpa using hu
    · cases hu
  · intro i hi j hj
    rw [cell_of_row w _ _ cur e (0, 0) hh, frozen_of_row w _ _ cur e hh]
    have : i * size + j < cur.size := by
      rw [hsz]
      calc i * size + j < i * size + size := by omega
        _ = (i + 1) * size := by rw [Nat.succ_mul]
        _ ≤ cap * size := Nat.mul_le_mul_right _ (by omega)
    simp [this]

theorem owns_empty (w : World) (e size : Nat) : (w.alloc (.cells #[] e)).ownsRow w.heap.size e size (.slice (some ⟨w.heap.size, 0, none⟩) 0 0) 0 [] :=
  ⟨by simp, .inr ⟨w.heap.size, 0, #[], rfl, Nat.le_refl _, heap_alloc_new _ _, Nat.le_refl _, by unfold maxLen; omega, by simp, by simp⟩⟩

theorem info30 : (Try.prog.info? 30).map (fun i => (i.zero, i.size, i.bytes)) = some (some (.agg (u8s (List.replicate 32 0)).toArray), 32, 32) := by kernel_rfl

set_option maxRecDepth 100000 in
set_option maxHeartbeats 400000 in
theorem c33_nil (w : World) : Calls Try.prog 33 #[.slice none 0 0] w fun e w' => e = .returned (.slice none 0 0) ∧ w = w' := by
  have hnil := fun (w : World) (a : Option Addr) (n c : Nat) => Lib.run_eql_slice_nil (P := Try.prog) w 55 68 a n c 0 0 Try.underlying55
  go_enter Try.func33, Try.ntmps33
  go_wp2
  go_ret
  exact ⟨rfl, rfl⟩

set_option maxRecDepth 100000 in
set_option maxHeartbeats 400000 in
theorem c34_nil (w : World) : Calls Try.prog 34 #[.slice none 0 0] w fun e w' => e = .returned (.slice none 0 0) ∧ w = w' := by
  have hnil := fun (w : World) (a : Option Addr) (n c : Nat) => Lib.run_eql_slice_nil (P := Try.prog) w 33 30 a n c 0 0 Try.underlying33
  go_enter Try.func34, Try.ntmps34
  go_wp2
  go_ret
  exact ⟨rfl, rfl⟩

theorem zz68 : (Value.agg z68.toArray).cells.size = 33 := by kernel_rfl

set_option maxRecDepth 100000 in
set_option maxHeartbeats 400000 in
theorem c33_made (A : Addr) (cap b off : Nat) (rows : List (List Value)) (w : World) (hn : rows.length ≤ 65536) (hl : ∀ r ∈ rows, r.length = 33) (h1 : ∀ u ∈ rows.flatten, u.oneCell' = true)
    (ha : rows.length ≠ 0 → A = ⟨b, off, none⟩ ∧ b < w.heap.size) (hrow : w.rangeAt b off rows.flatten) :
    Calls Try.prog 33 #[.slice (some A) rows.length cap] w fun e w' => ∃ g c', e = .returned (.slice (some ⟨g, 0, none⟩) rows.length c') ∧ w.heap.size ≤ g ∧ g < w'.heap.size ∧ w'.rangeAt g 0 rows.flatten ∧ (∀ i, i < rows.length → w'.there g (i * 33) 33) ∧ Below w.heap.size w w' := by
  obtain ⟨i0, hi, hz0, hz1, hz2⟩ := info_parts info68
  have hnil := fun (w : World) (a : Option Addr) (n c : Nat) => Lib.run_eql_slice_nil (P := Try.prog) w 55 68 a n c 0 0 Try.underlying55
  have hbs : ∀ w : World, (Instr.buildSlice 55 0 #[]).run Try.prog w = .ok (.slice (some ⟨w.heap.size, 0, none⟩) 0 0) (w.alloc (.cells #[] 68)) := fun w => by kernel_rfl
  have hnews : ∀ j u, rows.flatten[j]? = some u → (w.alloc (.cells #[] 68)).cell? (A.add j) = some u := by
    intro j u hu
    by_cases h0 : rows.length = 0
    · have : rows = [] := List.eq_nil_of_length_eq_zero h0
      subst this
      simp at hu
    · obtain ⟨rfl, _⟩ := ha h0
      rw [Addr.add_mid]
      exact World.rangeAt_alloc hrow _ j u hu
  have hlen := length_flat rows hl
  go_enter Try.func33, Try.ntmps33
  go_wp2_with (at_builtin; refine wpList_append_own _ rfl (.tmp 5) (.tmp 6) 55 rfl w.heap.size 68 i0 (.agg z68.toArray) 33 56 Try.underlying55 hi hz0 hz1 hz2 zz68 (by decide) _ _ _ rfl (owns_empty w 68 33) A rows.length cap rows.flatten rfl hlen hnews h1 (by unfold maxLen; omega) (by omega) (by simp) ?_)
  intro v' w1 hown hgr hni
  have hB : Below w.heap.size w w1 := ((Below.refl _ _).alloc (Nat.le_refl _) _).grown hgr (by simp) (fun k hk => by simp [Value.ownBlock] at hk; omega)
  obtain ⟨g, c', hv, q1, q2, q3, q4⟩ := owns_facts hown hni
  rw [hv]
  clear hv
  clear hown hgr hni hnews
  go_wp2
  go_ret
  exact ⟨g, c', rfl, q1, q2, q3, q4, hB⟩

theorem zz30 : (Value.agg (u8s (List.replicate 32 0)).toArray).cells.size = 32 := by kernel_rfl

set_option maxRecDepth 100000 in
set_option maxHeartbeats 400000 in
theorem c34_made (A : Addr) (cap b off : Nat) (rows : List (List Value)) (w : World) (hn : rows.length ≤ 65536) (hl : ∀ r ∈ rows, r.length = 32) (h1 : ∀ u ∈ rows.flatten, u.oneCell' = true)
    (ha : rows.length ≠ 0 → A = ⟨b, off, none⟩ ∧ b < w.heap.size) (hrow : w.rangeAt b off rows.flatten) :
    Calls Try.prog 34 #[.slice (some A) rows.length cap] w fun e w' => ∃ g c', e = .returned (.slice (some ⟨g, 0, none⟩) rows.length c') ∧ w.heap.size ≤ g ∧ g < w'.heap.size ∧ w'.rangeAt g 0 rows.flatten ∧ (∀ i, i < rows.length → w'.there g (i * 32) 32) ∧ Below w.heap.size w w' := by
  obtain ⟨i0, hi, hz0, hz1, hz2⟩ := info_parts info30
  have hnil := fun (w : World) (a : Option Addr) (n c : Nat) => Lib.run_eql_slice_nil (P := Try.prog) w 33 30 a n c 0 0 Try.underlying33
  have hbs : ∀ w : World, (Instr.buildSlice 33 0 #[]).run Try.prog w = .ok (.slice (some ⟨w.heap.size, 0, none⟩) 0 0) (w.alloc (.cells #[] 30)) := fun w => by kernel_rfl
  have hnews : ∀ j u, rows.flatten[j]? = some u → (w.alloc (.cells #[] 30)).cell? (A.add j) = some u := by
    intro j u hu
    by_cases h0 : rows.length = 0
    · have : rows = [] := List.eq_nil_of_length_eq_zero h0
      subst this
      simp at hu
    · obtain ⟨rfl, _⟩ := ha h0
      rw [Addr.add_mid]
      exact World.rangeAt_alloc hrow _ j u hu
  have hlen := length_flat rows hl
  go_enter Try.func34, Try.ntmps34
  go_wp2_with (at_builtin; refine wpList_append_own _ rfl (.tmp 5) (.tmp 6) 33 rfl w.heap.size 30 i0 (.agg (u8s (List.replicate 32 0)).toArray) 32 32 Try.underlying33 hi hz0 hz1 hz2 zz30 (by decide) _ _ _ rfl (owns_empty w 30 32) A rows.length cap rows.flatten rfl hlen hnews h1 (by unfold maxLen; omega) (by omega) (by simp) ?_)
  intro v' w1 hown hgr hni
  have hB : Below w.heap.size w w1 := ((Below.refl _ _).alloc (Nat.le_refl _) _).grown hgr (by simp) (fun k hk => by simp [Value.ownBlock] at hk; omega)
  obtain ⟨g, c', hv, q1, q2, q3, q4⟩ := owns_facts hown hni
  rw [hv]
  clear hv
  clear hown hgr hni hnews
  go_wp2
  go_ret
  exact ⟨g, c', rfl, q1, q2, q3, q4, hB⟩

end Go.Proofs.Qxb6604552a.Pend
