import Derived.Test.Qxb6604552aPending
import Derived.Test.Qxb6604552aCmp
namespace Go.Proofs.Qxb6604552a.Pend
open Go.RowKit Mid
open Go.Proofs.Qxb6604552a.Node (wpL_load30 wpL_eql30 wpL_neq30 size23 size30 size5)
attribute [local simp] length_u8s

/-- The ciphertexts as they came in: nothing is known of their lengths yet. -/
structure CtsOpen (w : World) (l : Loc) (cts : List Ct) : Prop where
  addr : cts.length ≠ 0 → l.ao = some ⟨l.b, l.off, none⟩ ∧ l.b < w.heap.size
  row : ∀ i (h : i < cts.length), w.rangeAt l.b (l.off + i * 33) (ctCells cts[i])
  bufAddr : ∀ i (h : i < cts.length), cts[i].buf.bs.length ≠ 0 → cts[i].buf.ao = some ⟨cts[i].buf.b, cts[i].buf.off, none⟩ ∧ cts[i].buf.b < w.heap.size
  bufRow : ∀ i (h : i < cts.length), w.rangeAt cts[i].buf.b cts[i].buf.off (u8s cts[i].buf.bs)
  bufNil : ∀ i (h : i < cts.length), cts[i].buf.ao = none → cts[i].buf.cap = 0
  rek : ∀ i (h : i < cts.length), cts[i].rek.length = 32
  nil : l.ao = none → l.cap = 0

theorem CtsOpen.lie {w : World} {l : Loc} {cts : List Ct} (h : CtsOpen w l cts) (hs : ∀ i (h : i < cts.length), cts[i].buf.bs.length ≤ 1048576) : CtsLie w l cts :=
  ⟨h.addr, ⟨h.row, fun i hi => ⟨h.bufAddr i hi, h.bufRow i hi, h.bufNil i hi, hs i hi⟩, h.rek⟩, h.nil⟩

theorem CtsOpen.cell {w : World} {l : Loc} {cts : List Ct} (h : CtsOpen w l cts) {k : Nat} (hk : k < cts.length) : w.cell? ⟨l.b, l.off + k * 33 + 32, none⟩ = some (.slice cts[k].buf.ao cts[k].buf.bs.length cts[k].buf.cap) :=
  rangeAt_cell (rangeAt_right (l.off + k * 33 + 32) (by simp [h.rek k hk]) (h.row k hk))

/-- It answered a bool; true tells p. -/
def Told (e : Ending) (p : Prop) : Prop := ∃ q, e = .returned (.bool q) ∧ (q = true → p)
theorem Told.no (p : Prop) : Told (.returned (.bool false)) p := ⟨false, rfl, fun h => by cases h⟩
theorem Told.yes {p : Prop} (h : p) : Told (.returned (.bool true)) p := ⟨true, rfl, fun _ => h⟩

def three (w : World) (p : Pd) : World := ((w.alloc (.cells (u8s p.prop).toArray 23)).alloc (.cells (u8s p.chk).toArray 23)).alloc (.cells (u8s p.sig).toArray 23)
theorem three_below (w : World) (p : Pd) : Below w.heap.size w (three w p) := (((Below.refl _ _).alloc (Nat.le_refl _) _).alloc (by simp) _).alloc (by simp; omega) _

set_option maxRecDepth 100000 in
set_option maxHeartbeats 1000000 in
theorem c15 (l1 l2 : Loc) (cts : List Ct) (m : Nat) (w : World) (hn1 : cts.length ≤ 65536) (hm : m ≤ 65536) (h : CtsOpen w l1 cts) :
    Calls Try.prog 15 #[l1.val cts.length, l2.val m] w fun e w' => SomeBool e ∧ w = w' := by
  obtain ⟨ao, cap, b, off⟩ := l1
  simp only [Loc.val]
  by_cases hb : 1048576 < 32 * (m : Int)
  · go_enter Try.func15, Try.ntmps15
    go_wp2
    go_ret
    exact ⟨.mk _, rfl⟩
  go_enter Try.func15, Try.ntmps15
  go_wp2
  go_loop [5, 6] (fun t i => ∃ (k : Nat) (s : Int), k ≤ cts.length ∧ i = .int .i64 k ∧ t = .int .i64 s) (fun _ i => cts.length - (intOf i).toNat)
  case atStart => exact ⟨0, _, Nat.zero_le _, rfl, rfl⟩
  case round =>
    obtain ⟨k, s, hk, rfl, rfl⟩ := hrel
    by_cases hlt : k < cts.length
    · have hA := h.cell hlt
      obtain ⟨e, _⟩ := h.addr (by omega)
      simp only at e hA
      subst e
      generalize cts[k].buf = f at hA
      obtain ⟨fa, fc, fb, fo, fbs⟩ := f
      simp only at hA
      go_wp2
      · go_ret
        exact ⟨.mk _, rfl⟩
      · go_round
        case rel => exact ⟨k + 1, _, by omega, by go_num, rfl⟩
        case measure => simp [intOf]; omega
    · go_wp2
      go_ret
      exact ⟨.mk _, rfl⟩

set_option maxRecDepth 100000 in
set_option maxHeartbeats 1000000 in
theorem c14 (pr : Bool) (p : Pd) (l1 l2 : Loc) (cts : List Ct) (m : Nat) (w : World) (h : CtsOpen w l1 cts) :
    Calls Try.prog 14 #[.bool pr, .agg (u8s p.prop).toArray, .int .u64 p.gen, .int .u64 p.ep, .agg (u8s p.chk).toArray, .agg (u8s p.sig).toArray, l1.val cts.length, l2.val m] w
      fun e w' => Told e (∀ i (h : i < cts.length), cts[i].buf.bs.length ≤ 1048576) ∧ Below w.heap.size w w' := by
  have B1 := three_below w p
  have hb1 : ∀ k (hk : k < cts.length), (three w p).cell? ⟨l1.b, l1.off + k * 33 + 32, none⟩ = some (.slice cts[k].buf.ao cts[k].buf.bs.length cts[k].buf.cap) := fun k hk => by
    rw [B1.cell (by exact (h.addr (by omega)).2)]; exact h.cell hk
  obtain ⟨ao, cap, b, off⟩ := l1
  obtain ⟨ao2, cap2, b2, off2⟩ := l2
  simp only [Loc.val]
  simp only at hb1
  unfold three at B1 hb1
  by_cases hbig : 1048576 < cts.length
  · have hbig' : (1048576 : Int) < (cts.length : Int) := by omega
    go_enter Try.func14, Try.ntmps14
    go_wp2
    go_ret
    exact ⟨Told.no _, B1⟩
  have hbig' : (cts.length : Int) ≤ 1048576 := by omega
  have HH := hb1
  go_enter Try.func14, Try.ntmps14
  go_upto_region 1 with fail
  generalize hw1 : ((w.alloc (.cells (u8s p.prop).toArray 23)).alloc (.cells (u8s p.chk).toArray 23)).alloc (.cells (u8s p.sig).toArray 23) = w1 at *
  clear hw1 HH
  have HB : Hid (∀ k (hk : k < cts.length), w1.cell? ⟨b, off + k * 33 + 32, none⟩ = some (.slice cts[k].buf.ao cts[k].buf.bs.length cts[k].buf.cap)) := hb1
  clear hb1
  go_wp2
  go_loop [17, 18] (fun t i => ∃ (k : Nat) (s : Int), k ≤ cts.length ∧ i = .int .i64 k ∧ t = .int .i64 s ∧ 0 ≤ s ∧ s ≤ 1048576 ∧ Hid (∀ j (h : j < cts.length), j < k → cts[j].buf.bs.length ≤ 1048576)) (fun _ i => cts.length - (intOf i).toNat)
  case atStart => exact ⟨0, _, Nat.zero_le _, rfl, rfl, by omega, by omega, fun j _ h => by omega⟩
  case round =>
    obtain ⟨k, s, hk, rfl, rfl, hs0, hs1, HS⟩ := hrel
    by_cases hlt : k < cts.length
    · have hA := HB.out k hlt
      obtain ⟨e, _⟩ := h.addr (by omega)
      simp only at e
      subst e
      have HF : Hid (∃ f, f = cts[k].buf) := ⟨_, rfl⟩
      obtain ⟨f, hf⟩ := HF.out
      rw [← hf] at hA
      have HE : Hid (f = cts[k].buf) := hf
      clear hf HF
      obtain ⟨fa, fc, fb, fo, fbs⟩ := f
      simp only at hA
      go_wp2
      case roundEnd =>
        have hle : (fbs.length : Int) ≤ 1048576 := by assumption
        have hsum : s + 32 + (fbs.length : Int) ≤ 1048576 := by assumption
        have HT : Hid (∀ j (h : j < cts.length), j < k + 1 → cts[j].buf.bs.length ≤ 1048576) := fun j hj hjk => by
          by_cases e : j = k
          · subst e
            rw [← HE.out]
            show fbs.length ≤ 1048576
            omega
          · exact HS.out j hj (by omega)
        go_round
        case rel => exact ⟨k + 1, _, by omega, by go_num, rfl, by omega, by omega, HT⟩
        case measure => simp [intOf]; omega
      all_goals
        go_ret
        exact ⟨Told.no _, B1⟩
    · have HT : Hid (∀ j (h : j < cts.length), cts[j].buf.bs.length ≤ 1048576) := fun j hj => HS.out j hj (by omega)
      clear HS
      by_cases h1 : 1048576 < m
      · have h1' : (1048576 : Int) < (m : Int) := by omega
        go_wp2
        go_ret
        exact ⟨Told.no _, B1⟩
      have h1' : (m : Int) ≤ 1048576 := by omega
      by_cases h2 : 1048576 < s + (m : Int)
      · go_wp2
        go_ret
        exact ⟨Told.no _, B1⟩
      have h2' : s + (m : Int) ≤ 1048576 := by omega
      go_wp2
      go_loop [17, 19] (fun t i => ∃ (k : Nat) (s : Int), k ≤ m ∧ i = .int .i64 k ∧ t = .int .i64 s ∧ 0 ≤ s ∧ s ≤ 1048576) (fun _ i => m - (intOf i).toNat)
      case atStart => exact ⟨0, _, Nat.zero_le _, rfl, rfl, by omega, by omega⟩
      case round =>
        obtain ⟨j, s', hj, rfl, rfl, hs0', hs1'⟩ := hrel
        by_cases hjt : j < m
        · go_wp2
          case roundEnd =>
            have hsum : s' + 32 ≤ 1048576 := by assumption
            go_round
            case rel => exact ⟨j + 1, _, by omega, by go_num, rfl, by omega, by omega⟩
            case measure => simp [intOf]; omega
          all_goals
            go_ret
            exact ⟨Told.no _, B1⟩
        · go_wp2
          go_ret
          exact ⟨Told.yes HT.out, B1⟩

set_option maxRecDepth 100000 in
set_option maxHeartbeats 1000000 in
theorem c22 (p : Pd) (l1 l2 : Loc) (cts : List Ct) (m : Nat) (w : World) (h : CtsOpen w l1 cts) :
    Calls Try.prog 22 #[.agg (u8s p.prop).toArray, .int .u64 p.gen, .int .u64 p.ep, .agg (u8s p.chk).toArray, .agg (u8s p.sig).toArray, l1.val cts.length, l2.val m] w
      fun e w' => Told e (∀ i (h : i < cts.length), cts[i].buf.bs.length ≤ 1048576) ∧ Below w.heap.size w w' := by
  have B1 := three_below w p
  have hb1 : ∀ k (hk : k < cts.length), (three w p).cell? ⟨l1.b, l1.off + k * 33 + 32, none⟩ = some (.slice cts[k].buf.ao cts[k].buf.bs.length cts[k].buf.cap) := fun k hk => by
    rw [B1.cell (by exact (h.addr (by omega)).2)]; exact h.cell hk
  obtain ⟨ao, cap, b, off⟩ := l1
  obtain ⟨ao2, cap2, b2, off2⟩ := l2
  simp only [Loc.val]
  simp only at hb1
  unfold three at B1 hb1
  by_cases hbig : 1048576 < cts.length
  · have hbig' : (1048576 : Int) < (cts.length : Int) := by omega
    go_enter Try.func22, Try.ntmps22
    go_wp2
    go_ret
    exact ⟨Told.no _, B1⟩
  have hbig' : (cts.length : Int) ≤ 1048576 := by omega
  have HH := hb1
  go_enter Try.func22, Try.ntmps22
  go_upto_region 1 with fail
  generalize hw1 : ((w.alloc (.cells (u8s p.prop).toArray 23)).alloc (.cells (u8s p.chk).toArray 23)).alloc (.cells (u8s p.sig).toArray 23) = w1 at *
  clear hw1 HH
  have HB : Hid (∀ k (hk : k < cts.length), w1.cell? ⟨b, off + k * 33 + 32, none⟩ = some (.slice cts[k].buf.ao cts[k].buf.bs.length cts[k].buf.cap)) := hb1
  clear hb1
  go_wp2
  go_loop [15, 16] (fun t i => ∃ (k : Nat) (s : Int), k ≤ cts.length ∧ i = .int .i64 k ∧ t = .int .i64 s ∧ 0 ≤ s ∧ s ≤ 1048576 ∧ Hid (∀ j (h : j < cts.length), j < k → cts[j].buf.bs.length ≤ 1048576)) (fun _ i => cts.length - (intOf i).toNat)
  case atStart => exact ⟨0, _, Nat.zero_le _, rfl, rfl, by omega, by omega, fun j _ h => by omega⟩
  case round =>
    obtain ⟨k, s, hk, rfl, rfl, hs0, hs1, HS⟩ := hrel
    by_cases hlt : k < cts.length
    · have hA := HB.out k hlt
      obtain ⟨e, _⟩ := h.addr (by omega)
      simp only at e
      subst e
      have HF : Hid (∃ f, f = cts[k].buf) := ⟨_, rfl⟩
      obtain ⟨f, hf⟩ := HF.out
      rw [← hf] at hA
      have HE : Hid (f = cts[k].buf) := hf
      clear hf HF
      obtain ⟨fa, fc, fb, fo, fbs⟩ := f
      simp only at hA
      go_wp2
      case roundEnd =>
        have hle : (fbs.length : Int) ≤ 1048576 := by assumption
        have hsum : s + 32 + (fbs.length : Int) ≤ 1048576 := by assumption
        have HT : Hid (∀ j (h : j < cts.length), j < k + 1 → cts[j].buf.bs.length ≤ 1048576) := fun j hj hjk => by
          by_cases e : j = k
          · subst e
            rw [← HE.out]
            show fbs.length ≤ 1048576
            omega
          · exact HS.out j hj (by omega)
        go_round
        case rel => exact ⟨k + 1, _, by omega, by go_num, rfl, by omega, by omega, HT⟩
        case measure => simp [intOf]; omega
      all_goals
        go_ret
        exact ⟨Told.no _, B1⟩
    · have HT : Hid (∀ j (h : j < cts.length), cts[j].buf.bs.length ≤ 1048576) := fun j hj => HS.out j hj (by omega)
      clear HS
      by_cases h1 : 1048576 < m
      · have h1' : (1048576 : Int) < (m : Int) := by omega
        go_wp2
        go_ret
        exact ⟨Told.no _, B1⟩
      have h1' : (m : Int) ≤ 1048576 := by omega
      by_cases h2 : 1048576 < s + (m : Int)
      · go_wp2
        go_ret
        exact ⟨Told.no _, B1⟩
      have h2' : s + (m : Int) ≤ 1048576 := by omega
      go_wp2
      go_loop [15, 17] (fun t i => ∃ (k : Nat) (s : Int), k ≤ m ∧ i = .int .i64 k ∧ t = .int .i64 s ∧ 0 ≤ s ∧ s ≤ 1048576) (fun _ i => m - (intOf i).toNat)
      case atStart => exact ⟨0, _, Nat.zero_le _, rfl, rfl, by omega, by omega⟩
      case round =>
        obtain ⟨j, s', hj, rfl, rfl, hs0', hs1'⟩ := hrel
        by_cases hjt : j < m
        · go_wp2
          case roundEnd =>
            have hsum : s' + 32 ≤ 1048576 := by assumption
            go_round
            case rel => exact ⟨j + 1, _, by omega, by go_num, rfl, by omega, by omega⟩
            case measure => simp [intOf]; omega
          all_goals
            go_ret
            exact ⟨Told.no _, B1⟩
        · go_wp2
          go_ret
          exact ⟨Told.yes HT.out, B1⟩

end Go.Proofs.Qxb6604552a.Pend
