import Derived.Test.Qxb6604552aStat
namespace Go.Proofs.Qxb6604552a.Node
open Go.RowKit Mid
attribute [local simp] length_u8s

/-- The rows of an argument: from offset 'off' of block b on. -/
def RowsOff (w : World) (b off : Nat) (rows : List Row) : Prop := ∀ i (h : i < rows.length), w.rangeAt b (off + i * 131) (cells rows[i])
theorem rowsOff_below {B b off : Nat} {w w' : World} {rows : List Row} (hb : Below B w w') (hB : rows.length ≠ 0 → b < B) (h : RowsOff w b off rows) : RowsOff w' b off rows := fun i hi => rangeAt_below hb (hB (by omega)) (h i hi)

theorem info38 : (Try.prog.info? 38).map (fun i => (i.zero, i.size, i.bytes)) = some (some (.agg z38.toArray), 131, 160) := by kernel_rfl

/-- Filling the new row: behind k rounds. -/
structure Fill (w : World) (g n : Nat) (rows : List Row) (w0 wr : World) (k : Nat) : Prop where
  room : ∀ i, i < n → wr.there g (i * 131) 131
  done : ∀ i (h : i < rows.length), i < k → wr.rangeAt g (i * 131) (cells rows[i])
  below : Below w.heap.size w wr
  size : g < wr.heap.size
  base : w.heap.size ≤ g
  since : Below g w0 wr

theorem Fill.next {w : World} {g n : Nat} {rows : List Row} {w0 wr w2 : World} {k : Nat} (h : Fill w g n rows w0 wr k) (hb2 : Below wr.heap.size wr w2) : Fill w g n rows w0 w2 k :=
  ⟨fun i hi => there_below hb2 h.size (h.room i hi), fun i hi hk => rangeAt_below hb2 h.size (h.done i hi hk), h.below.trans (hb2.mono h.below.size), Nat.lt_of_lt_of_le h.size hb2.size, h.base,
    h.since.trans (hb2.mono (Nat.le_of_lt h.size))⟩

theorem Fill.put {w : World} {g n : Nat} {rows : List Row} {w0 wr : World} {k : Nat} (h : Fill w g n rows w0 wr k) (hk : k < rows.length) (hn : k < n) (hok : ∀ r ∈ rows, r.Ok) : Fill w g n rows w0 (wr.setCells g (k * 131) (cells rows[k])) (k + 1) := by
  have hl : ∀ i (h : i < rows.length), (cells rows[i]).length = 131 := fun i hi => length_cells (hok _ (List.getElem_mem hi))
  refine ⟨fun i hi => World.there_setCells (h.room i hi) _ _ _, fun i hi hik => ?_, below_setCells g h.base _ _ _ h.below, by rw [size_setCells]; exact h.size, h.base, below_setCells g (Nat.le_refl _) _ _ _ h.since⟩
  by_cases e : i = k
  · subst e
    exact World.rangeAt_setCells_same _ _ _ _ (by rw [hl i hi]; exact h.room i hn)
  · refine World.rangeAt_setCells_apart (h.done i hi (by omega)) _ _ _ ?_
    rw [hl i hi, hl k hk]
    right
    rcases Nat.lt_or_gt_of_ne e with hlt | hgt
    · left; omega
    · omega

theorem fill_made {w w1 : World} {n : Nat} {rows : List Row} {g : Nat} (hg : w.heap.size = g)
    (hown : w1.ownsRow g 38 131 (Value.slice (some ⟨g, 0, none⟩) n n) n (madeCells z38.toArray (n * 131)).toList) (hgr : w.grownBy w1 none) : Fill w g n rows w w1 0 := by
  subst hg
  obtain ⟨_, h⟩ := hown
  rcases h with ⟨h, _⟩ | ⟨g, cap, cur, hv, hg, hh, hnc, hcm, hsz, htk⟩
  · cases h
  simp only [Value.slice.injEq, Option.some.injEq, Addr.mk.injEq] at hv
  obtain ⟨⟨rfl, _⟩, _, rfl⟩ := hv
  refine ⟨fun i hi j hj => ?_, fun i _ h => by omega, (Below.refl _ _).grown hgr (Nat.le_refl _) (fun _ h => by cases h), ?_, Nat.le_refl _, (Below.refl _ _).grown hgr (Nat.le_refl _) (fun _ h => by cases h)⟩
  · rw [cell_of_row w1 _ _ cur 38 (0, 0) hh, frozen_of_row w1 _ _ cur 38 hh]
    have : i * 131 + j < cur.size := by rw [hsz]; omega
    simp [this]
  · rcases Nat.lt_or_ge w.heap.size w1.heap.size with h | h
    · exact h
    · rw [Array.getElem?_eq_none h] at hh; cases hh

set_option maxRecDepth 100000 in
set_option maxHeartbeats 400000 in
theorem c10_nil (w : World) : Calls Try.prog 10 #[.slice none 0 0] w fun e w' => e = .returned (.slice none 0 0) ∧ w = w' := by
  have hnil := fun (w : World) (a : Option Addr) (n c : Nat) => Lib.run_eql_slice_nil (P := Try.prog) w 22 42 a n c 0 0 Try.underlying22
  go_enter Try.func10, Try.ntmps10
  go_wp2
  go_ret
  exact ⟨rfl, rfl⟩

set_option maxRecDepth 100000 in
set_option maxHeartbeats 400000 in
theorem c10_made (A : Addr) (cap b off : Nat) (rows : List Row) (hok : ∀ r ∈ rows, r.Ok) (w : World) (hn : rows.length ≤ 65536)
    (hb : rows.length ≠ 0 → b < w.heap.size) (hrow : RowsOff w b off rows) (ha : rows.length ≠ 0 → A = ⟨b, off, none⟩) :
    Calls Try.prog 10 #[.slice (some A) rows.length cap] w fun e w' => e = .returned (.slice (some ⟨w.heap.size, 0, none⟩) rows.length rows.length) ∧ RowsAt w' w.heap.size rows ∧ w.heap.size < w'.heap.size ∧ Below w.heap.size w w' := by
  obtain ⟨i0, hi, hz0, hz1, hz2⟩ := info_parts info38
  have hnil := fun (w : World) (a : Option Addr) (n c : Nat) => Lib.run_eql_slice_nil (P := Try.prog) w 22 42 a n c 0 0 Try.underlying22
  go_enter Try.func10, Try.ntmps10
  go_wp2_with (at_make; refine wpList_make_full _ rfl _ _ 26 rfl w.heap.size 38 i0 (.agg z38.toArray) 131 Try.underlying26 hi hz0 hz1 _ _ _ _ rows.length rfl rfl rfl rfl (by rw [hz2]; omega) (by unfold maxLen; omega) (by simp) ?_)
  intro w1 hown hgr
  have HF : Fill w w.heap.size rows.length rows w w1 0 := fill_made rfl hown hgr
  clear hown hgr
  go_wp2
  go_loopw [4] (fun i wr => ∃ k : Nat, k ≤ rows.length ∧ i = .int .i64 k ∧ Fill w w.heap.size rows.length rows w wr k) (fun i _ => rows.length - (intOf i).toNat)
  case atStart => exact ⟨0, Nat.zero_le _, rfl, HF⟩
  case round =>
    clear HF
    obtain ⟨k, hk, rfl, HF⟩ := hrel
    by_cases hlt : k < rows.length
    · have hR := rangeAt_below HF.below (hb (by omega)) (hrow k hlt)
      have hrk := hok rows[k] (List.getElem_mem hlt)
      obtain rfl := ha (by omega)
      go_wp2_with (with_reducible show wpList _ _ _ (⟨_, .load 42 (.tmp 20), _, _, _, _⟩ :: _) _ _; refine wpL_load42 rfl _ rfl b (off + k * 131) rfl rows[k] hrk hR ?_)
      refine (c12 rows[k] hrk _).mono ?_
      rintro e w2 ⟨rfl, hb2⟩
      have HF2 := HF.next hb2
      have hT := HF2.room k hlt
      go_wp2_with (with_reducible show wpList _ _ _ (⟨_, .store 38 _ _, _, _, _, _⟩ :: _) _ _; refine wpL_store38 rfl _ _ rfl w.heap.size (k * 131) rows[k] hrk rfl rfl hT ?_)
      go_roundw
      case rel => exact ⟨k + 1, by omega, by go_num, HF2.put hlt hlt hok⟩
      case measure => simp [intOf]; omega
    · go_wp2
      go_ret
      exact ⟨rfl, fun i hi => HF.done i hi (by omega), HF.size, HF.below⟩

end Go.Proofs.Qxb6604552a.Node
