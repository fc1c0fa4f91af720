import Derived.Test.Qxb6604552aNodes
import Derived.Test.Qxb6604552aOpen
namespace Go.Proofs.Qxb6604552a.Node
open Go.ChangeShapes Go.WideShapes Go.RowKit Mid
attribute [local simp] length_u8s

theorem cells42 : Try.prog.cellsOf 42 = 131 := by kernel_rfl
theorem cells23 : Try.prog.cellsOf 23 = 32 := by kernel_rfl
theorem cells5 : Try.prog.cellsOf 5 = 1 := by kernel_rfl
theorem cells3 : Try.prog.cellsOf 3 = 1 := by kernel_rfl
theorem cells4 : Try.prog.cellsOf 4 = 1 := by kernel_rfl
theorem cells9 : Try.prog.cellsOf 9 = 1 := by kernel_rfl

theorem inhabited_row : Nonempty Row := ⟨⟨[], 0, [], [], false, ByteArray.empty, []⟩⟩

section
variable {H : Type} {enc : TypeId × Value → H} {w : World} {base : Nat} {spare : Nat → Bool} {held : Bool}

theorem row_of {fuel : Nat} {cs : List Value} {x : DataW H × List MemPlace} (h : DataW.trod enc Try.prog w base spare held fuel 42 cs = some x) : ∃ r : Row, r.Ok ∧ cs = cells r := by
  obtain ⟨xs, m, _, _, hl, hxl, hel⟩ := DataW.trod_struct Try.underlying42 h
  rw [cells42] at hl
  have g : ∀ i, i < 7 → ∃ y, xs[i]? = some y := fun i hi => ⟨_, List.getElem?_eq_getElem (by rw [hxl]; simpa using hi)⟩
  have e0 : DataW.trod enc Try.prog w base spare held m 23 ((cs.drop 0).take (Try.prog.cellsOf 23)) = xs[0]? := hel 0 _ rfl
  have e1 : DataW.trod enc Try.prog w base spare held m 3 ((cs.drop 32).take (Try.prog.cellsOf 3)) = xs[1]? := hel 1 _ rfl
  have e2 : DataW.trod enc Try.prog w base spare held m 23 ((cs.drop 33).take (Try.prog.cellsOf 23)) = xs[2]? := hel 2 _ rfl
  have e3 : DataW.trod enc Try.prog w base spare held m 23 ((cs.drop 65).take (Try.prog.cellsOf 23)) = xs[3]? := hel 3 _ rfl
  have e4 : DataW.trod enc Try.prog w base spare held m 4 ((cs.drop 97).take (Try.prog.cellsOf 4)) = xs[4]? := hel 4 _ rfl
  have e5 : DataW.trod enc Try.prog w base spare held m 9 ((cs.drop 98).take (Try.prog.cellsOf 9)) = xs[5]? := hel 5 _ rfl
  have e6 : DataW.trod enc Try.prog w base spare held m 23 ((cs.drop 99).take (Try.prog.cellsOf 23)) = xs[6]? := hel 6 _ rfl
  obtain ⟨y0, g0⟩ := g 0 (by omega)
  obtain ⟨y1, g1⟩ := g 1 (by omega)
  obtain ⟨y2, g2⟩ := g 2 (by omega)
  obtain ⟨y3, g3⟩ := g 3 (by omega)
  obtain ⟨y4, g4⟩ := g 4 (by omega)
  obtain ⟨y5, g5⟩ := g 5 (by omega)
  obtain ⟨y6, g6⟩ := g 6 (by omega)
  rw [g0] at e0; rw [g1] at e1; rw [g2] at e2; rw [g3] at e3; rw [g4] at e4; rw [g5] at e5; rw [g6] at e6
  simp only [cells23, cells3, cells4, cells9] at e0 e1 e2 e3 e4 e5 e6
  obtain ⟨id, l0, q0⟩ := bytes_of Try.underlying23 Try.underlying5 cells5 cells23 e0
  obtain ⟨bk, q1, _⟩ := DataW.trod_int Try.underlying3 e1
  obtain ⟨en, l2, q2⟩ := bytes_of Try.underlying23 Try.underlying5 cells5 cells23 e2
  obtain ⟨rk, l3, q3⟩ := bytes_of Try.underlying23 Try.underlying5 cells5 cells23 e3
  obtain ⟨vd, q4, _⟩ := DataW.trod_bool Try.underlying4 e4
  obtain ⟨ad, q5, _⟩ := DataW.trod_string Try.underlying9 e5
  obtain ⟨rg, l6, q6⟩ := bytes_of Try.underlying23 Try.underlying5 cells5 cells23 e6
  refine ⟨⟨id, bk, en, rk, vd, ad, rg⟩, ⟨l0, l2, l3, l6⟩, ?_⟩
  have c0 := drop_cut cs 0 32 32 rfl
  have c1 := drop_cut cs 32 1 33 rfl
  have c2 := drop_cut cs 33 32 65 rfl
  have c3 := drop_cut cs 65 32 97 rfl
  have c4 := drop_cut cs 97 1 98 rfl
  have c5 := drop_cut cs 98 1 99 rfl
  have c6 := drop_cut cs 99 32 131 rfl
  rw [q0] at c0; rw [q1] at c1; rw [q2] at c2; rw [q3] at c3; rw [q4] at c4; rw [q5] at c5; rw [q6] at c6
  rw [List.drop_eq_nil_of_le (show cs.length ≤ 131 by omega)] at c6
  rw [c1, c2, c3, c4, c5, c6] at c0
  simpa [cells, tail] using c0

theorem rows_of {ao : Option Addr} {len cap : Nat} {d : DataW H} {p : List MemPlace} (h : DataW.Trod enc Try.prog w base spare held 22 (.slice ao len cap) d p) :
    ∃ (rows : List Row) (b off : Nat), rows.length = len ∧ (∀ r ∈ rows, r.Ok) ∧ (rows.length ≠ 0 → b < w.heap.size) ∧ RowsOff w b off rows ∧ (rows.length ≠ 0 → ao = some ⟨b, off, none⟩) ∧ (ao = none → cap = 0) := by
  obtain ⟨hnil, b, off, ha, hel⟩ := elems_of Try.underlying22 cells42 (by omega) h
  have hrow : ∀ i, i < len → ∃ r : Row, r.Ok ∧ w.rangeAt b (off + i * 131) (cells r) := by
    intro i hi
    obtain ⟨cs, fuel, x, hr, ht⟩ := hel i hi
    obtain ⟨r, hr1, rfl⟩ := row_of ht
    exact ⟨r, hr1, hr⟩
  haveI : Inhabited Row := ⟨⟨[], 0, [], [], false, ByteArray.empty, []⟩⟩
  obtain ⟨rows, hl, hrows⟩ := list_of hrow
  subst hl
  refine ⟨rows, b, off, rfl, ?_, fun h => (ha h).2, fun i hi => (hrows i hi).2, fun h => (ha h).1, fun h => (hnil h).2⟩
  intro r hr
  obtain ⟨i, hi, rfl⟩ := List.getElem_of_mem hr
  exact (hrows i hi).1
end

end Go.Proofs.Qxb6604552a.Node
