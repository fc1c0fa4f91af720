import Derived.Test.Qxb6604552aZz
import Derived.Test.Qxb6604552aOpen
namespace Go.Proofs.Qxb6604552a.Pend
open Go.ChangeShapes Go.WideShapes Go.RowKit Mid Go.Deep
attribute [local simp] length_u8s

theorem cells80 : Try.prog.cellsOf 80 = 33 := by kernel_rfl
theorem cells23 : Try.prog.cellsOf 23 = 32 := by kernel_rfl
theorem cells5 : Try.prog.cellsOf 5 = 1 := by kernel_rfl
theorem cells65 : Try.prog.cellsOf 65 = 1 := by kernel_rfl

section
variable {H : Type} {enc : TypeId × Value → H} {w : World} {base : Nat} {spare : Nat → Bool} {held : Bool}

theorem buf_of {fuel : Nat} {cs : List Value} {x : DataW H × List MemPlace} (h : DataW.trod enc Try.prog w base spare held fuel 65 cs = some x) :
    ∃ f : Buf, cs = [f.val] ∧ (f.bs.length ≠ 0 → f.ao = some ⟨f.b, f.off, none⟩ ∧ f.b < w.heap.size) ∧ w.rangeAt f.b f.off (u8s f.bs) ∧ (f.ao = none → f.cap = 0) := by
  obtain ⟨ao, n, c, rfl⟩ : ∃ ao n c, cs = [.slice ao n c] := by
    rcases open_slice Try.underlying65 h with ⟨hcs, _⟩ | ⟨a, l, c, _, _, _, _, hcs, _⟩
    · exact ⟨_, _, _, hcs⟩
    · exact ⟨_, _, _, hcs⟩
  obtain ⟨hnil, b, off, ha, hel⟩ := elems_of (d := x.1) (p := x.2) Try.underlying65 cells5 (by omega) ⟨fuel, h⟩
  have hb : ∀ i, i < n → ∃ u : UInt8, w.cell? ⟨b, off + i, none⟩ = some (Extern.Stop.cell u) := by
    intro i hi
    obtain ⟨cs, fu, y, hr, ht⟩ := hel i hi
    obtain ⟨k, rfl, _, hw⟩ := DataW.trod_int Try.underlying5 ht
    have hbd := bounds_u8 hw
    refine ⟨UInt8.ofNat k.toNat, ?_⟩
    have := hr 0 _ rfl
    rw [Nat.mul_one, Nat.add_zero] at this
    rw [this]
    unfold Extern.Stop.cell
    congr 2
    rw [UInt8.toNat_ofNat']
    show k = ((k.toNat % 256 : Nat) : Int)
    omega
  obtain ⟨bs, hl, hbs⟩ := list_of hb
  subst hl
  refine ⟨⟨ao, c, b, off, bs⟩, rfl, ha, fun j v hv => ?_, fun h => (hnil h).2⟩
  have hj : j < bs.length := by simpa using (List.getElem?_eq_some_iff.1 hv).1
  have := hbs j hj
  simp [u8s, hj] at hv
  rw [← hv]
  exact this

theorem ct_of {fuel : Nat} {cs : List Value} {x : DataW H × List MemPlace} (h : DataW.trod enc Try.prog w base spare held fuel 80 cs = some x) :
    ∃ c : Ct, cs = ctCells c ∧ c.rek.length = 32 ∧ (c.buf.bs.length ≠ 0 → c.buf.ao = some ⟨c.buf.b, c.buf.off, none⟩ ∧ c.buf.b < w.heap.size) ∧ w.rangeAt c.buf.b c.buf.off (u8s c.buf.bs) ∧ (c.buf.ao = none → c.buf.cap = 0) := by
  obtain ⟨xs, m, _, _, hl, hxl, hel⟩ := DataW.trod_struct Try.underlying80 h
  rw [cells80] at hl
  have e0 : DataW.trod enc Try.prog w base spare held m 23 ((cs.drop 0).take (Try.prog.cellsOf 23)) = xs[0]? := hel 0 _ rfl
  have e1 : DataW.trod enc Try.prog w base spare held m 65 ((cs.drop 32).take (Try.prog.cellsOf 65)) = xs[1]? := hel 1 _ rfl
  rw [List.getElem?_eq_getElem (by rw [hxl]; decide), cells23] at e0
  rw [List.getElem?_eq_getElem (by rw [hxl]; decide), cells65] at e1
  obtain ⟨rk, l0, q0⟩ := bytes_of Try.underlying23 Try.underlying5 cells5 cells23 e0
  obtain ⟨f, q1, f1, f2, f3⟩ := buf_of e1
  have c0 := drop_cut cs 0 32 32 rfl
  have c1 := drop_cut cs 32 1 33 rfl
  rw [q0] at c0
  rw [q1, List.drop_eq_nil_of_le (show cs.length ≤ 33 by omega)] at c1
  rw [c1] at c0
  exact ⟨⟨rk, f⟩, by simpa [ctCells] using c0, l0, f1, f2, f3⟩

theorem cts_of {ao : Option Addr} {len cap : Nat} {d : DataW H} {p : List MemPlace} (h : DataW.Trod enc Try.prog w base spare held 45 (.slice ao len cap) d p) :
    ∃ (cts : List Ct) (b off : Nat), cts.length = len ∧ CtsOpen w ⟨ao, cap, b, off⟩ cts := by
  obtain ⟨hnil, b, off, ha, hel⟩ := elems_of Try.underlying45 cells80 (by omega) h
  have hrow : ∀ i, i < len → ∃ c : Ct, w.rangeAt b (off + i * 33) (ctCells c) ∧ c.rek.length = 32 ∧ (c.buf.bs.length ≠ 0 → c.buf.ao = some ⟨c.buf.b, c.buf.off, none⟩ ∧ c.buf.b < w.heap.size) ∧ w.rangeAt c.buf.b c.buf.off (u8s c.buf.bs) ∧ (c.buf.ao = none → c.buf.cap = 0) := by
    intro i hi
    obtain ⟨cs, fuel, x, hr, ht⟩ := hel i hi
    obtain ⟨c, rfl, hc⟩ := ct_of ht
    exact ⟨c, hr, hc⟩
  haveI : Inhabited Ct := ⟨⟨[], ⟨none, 0, 0, 0, []⟩⟩⟩
  obtain ⟨cts, hl, hcts⟩ := list_of hrow
  subst hl
  exact ⟨cts, b, off, rfl, ⟨ha, fun i hi => (hcts i hi).1, fun i hi => (hcts i hi).2.2.1, fun i hi => (hcts i hi).2.2.2.1, fun i hi => (hcts i hi).2.2.2.2, fun i hi => (hcts i hi).2.1, fun h => (hnil h).2⟩⟩

theorem vals_of {ao : Option Addr} {len cap : Nat} {d : DataW H} {p : List MemPlace} (h : DataW.Trod enc Try.prog w base spare held 46 (.slice ao len cap) d p) :
    ∃ (vals : List (List UInt8)) (b off : Nat), vals.length = len ∧ ValsLie w ⟨ao, cap, b, off⟩ vals := by
  obtain ⟨hnil, b, off, ha, hel⟩ := elems_of Try.underlying46 cells23 (by omega) h
  have hrow : ∀ i, i < len → ∃ xs : List UInt8, w.rangeAt b (off + i * 32) (u8s xs) ∧ xs.length = 32 := by
    intro i hi
    obtain ⟨cs, fuel, x, hr, ht⟩ := hel i hi
    obtain ⟨xs, hxl, rfl⟩ := bytes_of Try.underlying23 Try.underlying5 cells5 cells23 ht
    exact ⟨xs, hr, hxl⟩
  obtain ⟨vals, hl, hv⟩ := list_of hrow
  subst hl
  exact ⟨vals, b, off, rfl, ⟨ha, ⟨fun i hi => (hv i hi).1, fun i hi => (hv i hi).2⟩, fun h => (hnil h).2⟩⟩

set_option maxRecDepth 100000 in
theorem arr_of {v : Value} {d : DataW H} {p : List MemPlace} {B : Nat} (hv : Value.okWide Try.prog w .any B 23 v) (h : DataW.Trod enc Try.prog w base spare held 23 v d p) : ∃ xs : List UInt8, xs.length = 32 ∧ v = .agg (u8s xs).toArray := by
  simp only [Value.okWide, Try.underlying23] at hv
  obtain ⟨cs, rfl, _⟩ := hv
  obtain ⟨fuel, hf⟩ := h
  obtain ⟨xs, hl, e⟩ := bytes_of Try.underlying23 Try.underlying5 cells5 cells23 hf
  exact ⟨xs, hl, by rw [← e]; simp [Value.cells]⟩
end

end Go.Proofs.Qxb6604552a.Pend
