/-
  The arguments opened: slices of [12]byte and of uint64.
-/
import Derived.Test.Qxb6602613aBuild
import Derived.Test.Qxb6602613aOpen
namespace Go.Proofs.Qxb6602613a.Ver
open Go.ChangeShapes Go.WideShapes Go.RowKit Go.Deep
open Go.Proofs.Qxb6602613a.Mid

theorem cells41 : Try.prog.cellsOf 41 = 1 := by kernel_rfl

section
variable {H : Type} {enc : TypeId × Value → H} {w : World} {base : Nat} {spare : Nat → Bool} {held : Bool}

theorem keys_of {ao : Option Addr} {len cap : Nat} {d : DataW H} {p : List MemPlace} (h : DataW.Trod enc Try.prog w base spare held 22 (.slice ao len cap) d p) :
    ∃ (ks : List (List UInt8)) (b off : Nat), ks.length = len ∧ KeysLie w.heap.size w ⟨ao, cap, b, off⟩ ks := by
  obtain ⟨hnil, b, off, ha, hel⟩ := elems_of Try.underlying22 cells42 (by omega) h
  have hrow : ∀ i, i < len → ∃ xs : List UInt8, w.rangeAt b (off + i * 12) (u8s xs) ∧ xs.length = 12 := by
    intro i hi
    obtain ⟨cs, fuel, x, hr, ht⟩ := hel i hi
    obtain ⟨xs, hxl, rfl⟩ := bytes_of Try.underlying42 Try.underlying5 cells5 cells42 ht
    exact ⟨xs, hr, hxl⟩
  obtain ⟨ks, hl, hv⟩ := list_of hrow
  subst hl
  exact ⟨ks, b, off, rfl, ⟨ha, fun i hi => (hv i hi).1, fun i hi => (hv i hi).2, fun h => (hnil h).2⟩⟩

theorem nums_of {ao : Option Addr} {len cap : Nat} {d : DataW H} {p : List MemPlace} (h : DataW.Trod enc Try.prog w base spare held 23 (.slice ao len cap) d p) :
    ∃ (vs : List Int) (b off : Nat), vs.length = len ∧ NumsLie w.heap.size w ⟨ao, cap, b, off⟩ vs := by
  obtain ⟨hnil, b, off, ha, hel⟩ := elems_of Try.underlying23 cells41 (by omega) h
  have hrow : ∀ i, i < len → ∃ a : Int, w.cell? ⟨b, off + i, none⟩ = some (.int .u64 a) ∧ (Lit.int .u64 a).wf = true := by
    intro i hi
    obtain ⟨cs, fuel, x, hr, ht⟩ := hel i hi
    obtain ⟨k, rfl, _, hw⟩ := DataW.trod_int Try.underlying41 ht
    have := hr 0 _ rfl
    rw [Nat.mul_one, Nat.add_zero] at this
    exact ⟨k, this, hw⟩
  obtain ⟨vs, hl, hv⟩ := list_of hrow
  subst hl
  exact ⟨vs, b, off, rfl, ⟨ha, fun i hi => (hv i hi).1, fun i hi => (hv i hi).2, fun h => (hnil h).2⟩⟩
end

end Go.Proofs.Qxb6602613a.Ver
