import Derived.Test.Qxb6604552aClone
import Derived.Test.Qxb6604552aCtsWalk
namespace Go.Proofs.Qxb6604552a.Pend
open Go.RowKit Mid
open Go.Proofs.Qxb6604552a.Node (wpL_load30 wpL_eql30 wpL_neq30 size23 size30 size5)
attribute [local simp] length_u8s

/-- Where a slice lies. -/
structure Loc where
  ao : Option Addr
  cap : Nat
  b : Nat
  off : Nat
def Loc.val (l : Loc) (n : Nat) : Value := .slice l.ao n l.cap
/-- What a make-and-fill of n elements in world w answers: nil of nil. -/
def made (l : Loc) (n : Nat) (w : World) : Loc := match l.ao with
  | none => ⟨none, 0, 0, 0⟩
  | some _ => ⟨some ⟨w.heap.size, 0, none⟩, n, w.heap.size, 0⟩

/-- 32-byte values, one behind the other. -/
structure ValsAt (w : World) (b off : Nat) (vals : List (List UInt8)) : Prop where
  row : ∀ i (h : i < vals.length), w.rangeAt b (off + i * 32) (u8s vals[i])
  len : ∀ i (h : i < vals.length), vals[i].length = 32

structure ValsLie (w : World) (l : Loc) (vals : List (List UInt8)) : Prop where
  addr : vals.length ≠ 0 → l.ao = some ⟨l.b, l.off, none⟩ ∧ l.b < w.heap.size
  rows : ValsAt w l.b l.off vals
  nil : l.ao = none → l.cap = 0

structure CtsLie (w : World) (l : Loc) (cts : List Ct) : Prop where
  addr : cts.length ≠ 0 → l.ao = some ⟨l.b, l.off, none⟩ ∧ l.b < w.heap.size
  rows : CtsAt w l.b l.off cts
  nil : l.ao = none → l.cap = 0

theorem CtsLie.below {w w' : World} {l : Loc} {cts : List Ct} {B : Nat} (h : CtsLie w l cts) (hb : Below B w w') (hB : w.heap.size ≤ B) : CtsLie w' l cts :=
  ⟨fun hn => ⟨(h.addr hn).1, Nat.lt_of_lt_of_le (h.addr hn).2 hb.size⟩,
   ⟨fun i hi => rangeAt_below hb (Nat.lt_of_lt_of_le (h.addr (by omega)).2 hB) (h.rows.row i hi), fun i hi => (h.rows.buf i hi).below hb (fun hn => Nat.lt_of_lt_of_le ((h.rows.buf i hi).addr hn).2 hB), h.rows.rek⟩, h.nil⟩
theorem ValsLie.below {w w' : World} {l : Loc} {vals : List (List UInt8)} {B : Nat} (h : ValsLie w l vals) (hb : Below B w w') (hB : w.heap.size ≤ B) : ValsLie w' l vals :=
  ⟨fun hn => ⟨(h.addr hn).1, Nat.lt_of_lt_of_le (h.addr hn).2 hb.size⟩, ⟨fun i hi => rangeAt_below hb (Nat.lt_of_lt_of_le (h.addr (by omega)).2 hB) (h.rows.row i hi), h.rows.len⟩, h.nil⟩

structure SameAll (new cts : List Ct) : Prop where
  len : new.length = cts.length
  each : ∀ i (h : i < new.length) (h' : i < cts.length), Same new[i] cts[i]

theorem c31 (l : Loc) (cts : List Ct) (w : World) (hn : cts.length ≤ 65536) (h : CtsLie w l cts) :
    Calls Try.prog 31 #[l.val cts.length] w fun e w' => e = .returned ((made l cts.length w).val cts.length) ∧ (∃ new, SameAll new cts ∧ CtsLie w' (made l cts.length w) new ∧ Below w.heap.size w w') := by
  obtain ⟨ao, cap, b, off⟩ := l
  cases ao with
  | none =>
    have hz : cts = [] := by
      rcases Nat.eq_zero_or_pos cts.length with h1 | h1
      · exact List.eq_nil_of_length_eq_zero h1
      · have := (h.addr (by omega)).1; cases this
    subst hz
    obtain rfl : cap = 0 := h.nil rfl
    refine (c31_nil w).mono ?_
    rintro e w' ⟨rfl, rfl⟩
    exact ⟨rfl, [], ⟨rfl, fun i hi => by simp at hi⟩, ⟨fun h => absurd rfl h, ⟨fun i hi => by simp at hi, fun i hi => by simp at hi, fun i hi => by simp at hi⟩, fun _ => rfl⟩, Below.refl _ _⟩
  | some A =>
    refine (c31_made A cap b off cts w hn (fun hn => by simpa using h.addr hn) h.rows).mono ?_
    rintro e w' ⟨rfl, new, hl, HF⟩
    refine ⟨rfl, new, ⟨hl, HF.same⟩, ⟨fun _ => ⟨rfl, HF.size⟩, ⟨fun i hi => ?_, fun i hi => (HF.buf i hi).1, HF.rek⟩, (fun h => by cases h)⟩, HF.below⟩
    have := HF.row i hi
    simpa [made] using this

/-- Behind some rounds of valuesOf. -/
structure VFill (vals : List (List UInt8)) (g : Nat) (w wr : World) (k : Nat) : Prop where
  room : ∀ i, i < vals.length → wr.there g (i * 32) 32
  row : ∀ i (h : i < vals.length), i < k → wr.rangeAt g (i * 32) (u8s vals[i])
  below : Below g w wr
  size : g < wr.heap.size

theorem VFill.put {vals : List (List UInt8)} {g : Nat} {w wr : World} {k : Nat} (h : VFill vals g w wr k) (hk : k < vals.length) (hl : ∀ i (h : i < vals.length), vals[i].length = 32) : VFill vals g w (wr.setCells g (k * 32) (u8s vals[k])) (k + 1) := by
  refine ⟨fun i hi => World.there_setCells (h.room i hi) _ _ _, fun i hi hik => ?_, below_setCells g (Nat.le_refl _) _ _ _ h.below, by rw [size_setCells]; exact h.size⟩
  by_cases e : i = k
  · subst e
    exact World.rangeAt_setCells_same _ _ _ _ (by rw [length_u8s, hl i hi]; exact h.room i hk)
  · refine World.rangeAt_setCells_apart (h.row i hi (by omega)) _ _ _ (Or.inr (Or.inl ?_))
    rw [length_u8s, hl i hi]
    omega

set_option maxRecDepth 100000 in
set_option maxHeartbeats 400000 in
theorem c32_nil (w : World) : Calls Try.prog 32 #[.slice none 0 0] w fun e w' => e = .returned (.slice none 0 0) ∧ w = w' := by
  have hnil := fun (w : World) (a : Option Addr) (n c : Nat) => Lib.run_eql_slice_nil (P := Try.prog) w 46 23 a n c 0 0 Try.underlying46
  go_enter Try.func32, Try.ntmps32
  go_wp2
  go_ret
  exact ⟨rfl, rfl⟩

set_option maxRecDepth 100000 in
set_option maxHeartbeats 400000 in
theorem c32_made (A : Addr) (cap b off : Nat) (vals : List (List UInt8)) (w : World) (hn : vals.length ≤ 65536) (ha : vals.length ≠ 0 → A = ⟨b, off, none⟩ ∧ b < w.heap.size) (hv : ValsAt w b off vals) :
    Calls Try.prog 32 #[.slice (some A) vals.length cap] w fun e w' => e = .returned (.slice (some ⟨w.heap.size, 0, none⟩) vals.length vals.length) ∧ VFill vals w.heap.size w w' vals.length := by
  obtain ⟨i0, hi, hz0, hz1, hz2⟩ := info_parts info30
  have hnil := fun (w : World) (a : Option Addr) (n c : Nat) => Lib.run_eql_slice_nil (P := Try.prog) w 46 23 a n c 0 0 Try.underlying46
  go_enter Try.func32, Try.ntmps32
  go_wp2_with (at_make; refine wpList_make_full _ rfl _ _ 33 rfl w.heap.size 30 i0 _ 32 Try.underlying33 hi hz0 hz1 _ _ _ _ vals.length rfl rfl rfl rfl (by rw [hz2]; omega) (by unfold maxLen; omega) (by simp) ?_)
  intro w1 hown hgr
  have HF : VFill vals w.heap.size w w1 0 := by
    obtain ⟨h1, h2, h3⟩ := made_facts rfl hown hgr
    exact ⟨h1, fun i _ h => by omega, h2, h3⟩
  clear hown hgr
  go_wp2
  go_loopw [4] (fun i wr => ∃ k : Nat, k ≤ vals.length ∧ i = .int .i64 k ∧ VFill vals w.heap.size w wr k) (fun i _ => vals.length - (intOf i).toNat)
  case atStart => exact ⟨0, Nat.zero_le _, rfl, HF⟩
  case round =>
    clear HF
    obtain ⟨k, hk, rfl, HF⟩ := hrel
    by_cases hlt : k < vals.length
    · obtain ⟨rfl, hb⟩ := ha (by omega)
      have hR := rangeAt_below HF.below hb (hv.row k hlt)
      have hL := hv.len k hlt
      have hT := HF.room k hlt
      have HP := HF.put hlt hv.len
      go_wp2_with (first
        | (with_reducible show wpList _ _ _ (⟨_, .load 23 (.tmp 20), _, _, _, _⟩ :: _) _ _; refine wpL_load rfl 23 _ rfl b (off + k * 32) rfl (u8s vals[k]) _ hR Try.underlying23 rfl (by rw [size23, length_u8s, hL]) ?_)
        | (with_reducible show wpList _ _ _ (⟨_, .store 30 _ _, _, _, _, _⟩ :: _) _ _; refine wpL_store rfl 30 _ _ rfl w.heap.size (k * 32) (u8s vals[k]) rfl rfl (by rw [length_u8s, hL]; exact hT) (by rw [size30, length_u8s, hL]) (one_u8s _) ?_))
      go_roundw
      case rel => exact ⟨k + 1, by omega, by go_num, HP⟩
      case measure => simp [intOf]; omega
    · obtain rfl : k = vals.length := by omega
      go_wp2
      go_ret
      exact ⟨rfl, HF⟩

theorem c32 (l : Loc) (vals : List (List UInt8)) (w : World) (hn : vals.length ≤ 65536) (h : ValsLie w l vals) :
    Calls Try.prog 32 #[l.val vals.length] w fun e w' => e = .returned ((made l vals.length w).val vals.length) ∧ (ValsLie w' (made l vals.length w) vals ∧ Below w.heap.size w w') := by
  obtain ⟨ao, cap, b, off⟩ := l
  cases ao with
  | none =>
    have hz : vals = [] := by
      rcases Nat.eq_zero_or_pos vals.length with h1 | h1
      · exact List.eq_nil_of_length_eq_zero h1
      · have := (h.addr (by omega)).1; cases this
    subst hz
    obtain rfl : cap = 0 := h.nil rfl
    refine (c32_nil w).mono ?_
    rintro e w' ⟨rfl, rfl⟩
    exact ⟨rfl, ⟨fun h => absurd rfl h, ⟨fun i hi => by simp at hi, fun i hi => by simp at hi⟩, fun _ => rfl⟩, Below.refl _ _⟩
  | some A =>
    refine (c32_made A cap b off vals w hn (fun hn => by simpa using h.addr hn) h.rows).mono ?_
    rintro e w' ⟨rfl, HF⟩
    refine ⟨rfl, ⟨fun _ => ⟨rfl, HF.size⟩, ⟨fun i hi => ?_, h.rows.len⟩, (fun h => by cases h)⟩, HF.below⟩
    have := HF.row i hi hi
    simpa [made] using this

theorem made_nil (l : Loc) (n : Nat) (w : World) : (made l n w).ao.isNone = l.ao.isNone := by unfold made; split <;> simp_all

end Go.Proofs.Qxb6604552a.Pend
