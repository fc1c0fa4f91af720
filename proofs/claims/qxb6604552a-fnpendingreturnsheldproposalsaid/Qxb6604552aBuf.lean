import Derived.Test.Qxb6604552aFind
namespace Go.Proofs.Qxb6604552a.Pend
open Go.RowKit Mid
open Go.Proofs.Qxb6604552a.Node (wpL_load30 wpL_eql30 wpL_neq30 size23 size30 size5)
attribute [local simp] length_u8s

/-- A slice of bytes: its value and what it holds. -/
structure Buf where
  ao : Option Addr
  cap : Nat
  b : Nat
  off : Nat
  bs : List UInt8

def Buf.val (f : Buf) : Value := .slice f.ao f.bs.length f.cap
/-- The bytes lie where the value leads. -/
structure Buf.Lies (f : Buf) (w : World) : Prop where
  addr : f.bs.length ≠ 0 → f.ao = some ⟨f.b, f.off, none⟩ ∧ f.b < w.heap.size
  row : w.rangeAt f.b f.off (u8s f.bs)
  nil : f.ao = none → f.cap = 0
  small : f.bs.length ≤ 1048576

theorem Buf.Lies.below {f : Buf} {B : Nat} {w w' : World} (h : f.Lies w) (hb : Below B w w') (hB : f.bs.length ≠ 0 → f.b < B) : f.Lies w' := by
  refine ⟨fun hn => ⟨(h.addr hn).1, Nat.lt_of_lt_of_le (h.addr hn).2 hb.size⟩, ?_, h.nil, h.small⟩
  by_cases hn : f.bs.length = 0
  · have : f.bs = [] := List.eq_nil_of_length_eq_zero hn
    intro j v hv
    rw [this] at hv
    simp [u8s] at hv
  · exact rangeAt_below hb (hB hn) h.row

theorem u8s_nil : u8s [] = [] := rfl
theorem byte_cell {w : World} {b o : Nat} {bs : List UInt8} (h : w.rangeAt b o (u8s bs)) {k : Nat} (hk : k < bs.length) : w.cell? ⟨b, o + k, none⟩ = some (.int .u8 (bs[k].toNat : Int)) := by
  exact h k _ (by simp [u8s, hk, Extern.Stop.cell])

theorem info5 : (Try.prog.info? 5).map (fun i => (i.zero, i.size, i.bytes)) = some (some (.int .u8 0), 1, 1) := by kernel_rfl

/-- A new row of 'size' cells an element: what 'make' leaves. -/
theorem made_facts {w w1 : World} {n size : Nat} {e : TypeId} {z : Array Value} {g : Nat} (hg : w.heap.size = g)
    (hown : w1.ownsRow g e size (Value.slice (some ⟨g, 0, none⟩) n n) n (madeCells z (n * size)).toList) (hgr : w.grownBy w1 none) :
    (∀ i, i < n → w1.there g (i * size) size) ∧ Below g w w1 ∧ g < w1.heap.size := by
  subst hg
  obtain ⟨_, h⟩ := hown
  rcases h with ⟨h, _⟩ | ⟨g, cap, cur, hv, hg, hh, hnc, hcm, hsz, htk⟩
  · cases h
  simp only [Value.slice.injEq, Option.some.injEq, Addr.mk.injEq] at hv
  obtain ⟨⟨rfl, _⟩, _, rfl⟩ := hv
  refine ⟨fun i hi j hj => ?_, (Below.refl _ _).grown hgr (Nat.le_refl _) (fun _ h => by cases h), ?_⟩
  · rw [cell_of_row w1 _ _ cur e (0, 0) hh, frozen_of_row w1 _ _ cur e hh]
    have : i * size + j < cur.size := by
      rw [hsz]
      calc i * size + j < i * size + size := by omega
        _ = (i + 1) * size := by rw [Nat.succ_mul]
        _ ≤ n * size := Nat.mul_le_mul_right _ hi
    simp [this]
  · rcases Nat.lt_or_ge w.heap.size w1.heap.size with h | h
    · exact h
    · rw [Array.getElem?_eq_none h] at hh; cases hh

set_option maxRecDepth 100000 in
set_option maxHeartbeats 400000 in
theorem c37_nil (w : World) : Calls Try.prog 37 #[.slice none 0 0] w fun e w' => e = .returned (.slice none 0 0) ∧ w = w' := by
  have hnil := fun (w : World) (a : Option Addr) (n c : Nat) => Lib.run_eql_slice_nil (P := Try.prog) w 65 5 a n c 0 0 Try.underlying65
  go_enter Try.func37, Try.ntmps37
  go_wp2
  go_ret
  exact ⟨rfl, rfl⟩

/-- Behind k rounds of the copying. -/
structure Copy (bs : List UInt8) (g : Nat) (w wr : World) (k : Nat) : Prop where
  room : ∀ i, i < bs.length → wr.there g i 1
  done : ∀ i (h : i < bs.length), i < k → wr.cell? ⟨g, i, none⟩ = some (.int .u8 (bs[i].toNat : Int))
  below : Below g w wr
  size : g < wr.heap.size

theorem Copy.put {bs : List UInt8} {g : Nat} {w wr : World} {k : Nat} (h : Copy bs g w wr k) (hk : k < bs.length) : Copy bs g w (wr.setCell ⟨g, k, none⟩ (.int .u8 (bs[k].toNat : Int))) (k + 1) := by
  have hc := (h.room k hk 0 (by omega)).1
  simp only [Nat.add_zero] at hc
  obtain ⟨u, hu⟩ := Option.isSome_iff_exists.1 hc
  refine ⟨fun i hi j hj => ?_, fun i hi hik => ?_, h.below.setCell (Nat.le_refl _) _, by simpa [World.setCell] using h.size⟩
  · obtain ⟨h1, h2⟩ := h.room i hi j hj
    refine ⟨?_, by rw [World.frozen?_setCell]; exact h2⟩
    obtain ⟨u', hu'⟩ := Option.isSome_iff_exists.1 h1
    by_cases e : (⟨g, k, none⟩ : Addr) = ⟨g, i + j, none⟩
    · rw [← e, World.cell?_setCell_same _ _ _ hu]; rfl
    · rw [World.cell?_setCell_other _ _ _ _ e, hu']; rfl
  · by_cases e : i = k
    · subst e; exact World.cell?_setCell_same _ _ _ hu
    · rw [World.cell?_setCell_other _ _ _ _ (by simp)]
      exact h.done i hi (by omega)

set_option maxRecDepth 100000 in
set_option maxHeartbeats 400000 in
theorem c37_made (A : Addr) (cap b off : Nat) (bs : List UInt8) (w : World) (hn : bs.length ≤ 1048576) (ha : bs.length ≠ 0 → A = ⟨b, off, none⟩ ∧ b < w.heap.size) (hrow : w.rangeAt b off (u8s bs)) :
    Calls Try.prog 37 #[.slice (some A) bs.length cap] w fun e w' => e = .returned (.slice (some ⟨w.heap.size, 0, none⟩) bs.length bs.length) ∧ w'.rangeAt w.heap.size 0 (u8s bs) ∧ w.heap.size < w'.heap.size ∧ Below w.heap.size w w' := by
  obtain ⟨i0, hi, hz0, hz1, hz2⟩ := info_parts info5
  have hnil := fun (w : World) (a : Option Addr) (n c : Nat) => Lib.run_eql_slice_nil (P := Try.prog) w 65 5 a n c 0 0 Try.underlying65
  go_enter Try.func37, Try.ntmps37
  go_wp2_with (at_make; refine wpList_make_full _ rfl _ _ 65 rfl w.heap.size 5 i0 (.int .u8 0) 1 Try.underlying65 hi hz0 hz1 _ _ _ _ bs.length rfl rfl rfl rfl (by rw [hz2]; omega) (by unfold maxLen; omega) (by simp) ?_)
  intro w1 hown hgr
  have HC : Copy bs w.heap.size w w1 0 := by
    obtain ⟨h1, h2, h3⟩ := made_facts (n := bs.length) (size := 1) (e := 5) (z := #[.int .u8 0]) rfl (by simpa using hown) hgr
    exact ⟨fun i hi => by simpa using h1 i hi, fun i _ h => by omega, h2, h3⟩
  clear hown hgr
  go_wp2
  go_loopw [4] (fun i wr => ∃ k : Nat, k ≤ bs.length ∧ i = .int .i64 k ∧ Copy bs w.heap.size w wr k) (fun i _ => bs.length - (intOf i).toNat)
  case atStart => exact ⟨0, Nat.zero_le _, rfl, HC⟩
  case round =>
    clear HC
    obtain ⟨k, hk, rfl, HC⟩ := hrel
    by_cases hlt : k < bs.length
    · obtain ⟨rfl, hb⟩ := ha (by omega)
      have hR := byte_cell (rangeAt_below HC.below hb hrow) hlt
      have hT := HC.room k hlt 0 (by omega)
      simp only [Nat.add_zero] at hT
      obtain ⟨hT1, hT2⟩ := hT
      obtain ⟨u, hu⟩ := Option.isSome_iff_exists.1 hT1
      have HP := HC.put hlt
      clear hT1 HC
      go_wp2
      go_roundw
      case rel => exact ⟨k + 1, by omega, by go_num, HP⟩
      case measure => simp [intOf]; omega
    · go_wp2
      go_ret
      refine ⟨rfl, fun j v hv => ?_, HC.size, HC.below⟩
      have hj : j < bs.length := by simpa using (List.getElem?_eq_some_iff.1 hv).1
      rw [Nat.zero_add, HC.done j hj (by omega)]
      simp [u8s, hj, Extern.Stop.cell] at hv
      rw [← hv]

end Go.Proofs.Qxb6604552a.Pend
