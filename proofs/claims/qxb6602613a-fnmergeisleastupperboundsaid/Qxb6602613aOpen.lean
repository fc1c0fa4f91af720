import Derived.Test.Qxb6602613aMid
import Derived.ProofKit
import Derived.OpenShut
import Derived.ChangeOld
import Derived.Deep.Slices
namespace Go.Proofs.Qxb6602613a.Mid
open Go.ChangeShapes Go.WideShapes Go.RowKit Go.Deep
open Extern.Stop (cell)

section
variable {H : Type} {enc : TypeId × Value → H} {P : Program} {w : World} {base : Nat} {spare : Nat → Bool} {held : Bool}

/-- A slice of elements of many cells, opened: each element's cells as a range, and their own reading. -/
theorem elems_of {t e : TypeId} {size : Nat} {ao : Option Addr} {len cap : Nat} {d : DataW H} {p : List MemPlace} (hu : P.underlying t = some (.slice e)) (hc : P.cellsOf e = size) (hpos : 0 < size)
    (h : DataW.Trod enc P w base spare held t (.slice ao len cap) d p) :
    (ao = none → len = 0 ∧ cap = 0) ∧ ∃ b off, (len ≠ 0 → ao = some ⟨b, off, none⟩ ∧ b < w.heap.size) ∧ ∀ i, i < len → ∃ cs fuel x, w.rangeAt b (off + i * size) cs ∧ DataW.trod enc P w base spare held fuel e cs = some x := by
  obtain ⟨fuel, hf⟩ := h
  rcases open_slice hu hf with ⟨hcs, _⟩ | ⟨a, l, c, m, n, D, Pl, hcs, hb, hl, hm, hmm, hx, hel⟩
  · simp [Value.cells] at hcs
    obtain ⟨rfl, rfl, rfl⟩ := hcs
    exact ⟨fun _ => ⟨rfl, rfl⟩, 0, 0, fun h => absurd rfl h, fun i hi => by omega⟩
  · simp [Value.cells] at hcs
    obtain ⟨rfl, rfl, rfl⟩ := hcs
    refine ⟨(fun h => by cases h), ?_⟩
    have hlm : len ≤ m := by rw [hmm]; split <;> omega
    rw [hc] at hel
    by_cases h0 : len = 0
    · subst h0
      exact ⟨0, 0, fun h => absurd rfl h, fun i hi => by omega⟩
    · obtain ⟨cs0, hc0, _⟩ := hel 0 (by omega)
      have hblk := World.cells?_block hc0 hpos
      obtain ⟨_, hlen0, hcell0⟩ := World.cells?_some hc0
      obtain ⟨v0, hv0⟩ : ∃ v0, cs0[0]? = some v0 := ⟨_, List.getElem?_eq_getElem (by omega)⟩
      have hc00 := hcell0 0 hpos
      rw [hv0] at hc00
      obtain ⟨b, off, spot⟩ := a
      have hspot : spot = none := by simpa [Addr.add] using World.cell?_spot hc00
      subst hspot
      refine ⟨b, off, fun _ => ⟨rfl, by simpa [Addr.add] using hblk⟩, fun i hi => ?_⟩
      obtain ⟨cs, hcs, htr⟩ := hel i (by omega)
      refine ⟨cs, n, _, ?_, htr⟩
      obtain ⟨_, hlen, hcell⟩ := World.cells?_some hcs
      intro j v hv
      have hj : j < size := by rw [← hlen]; exact (List.getElem?_eq_some_iff.1 hv).1
      have := hcell j hj
      rw [Addr.add_mid, Addr.add_mid] at this
      rw [this, hv]

/-- An array of bytes, opened. -/
theorem bytes_of {t e : TypeId} {n fuel : Nat} {cs : List Value} {x : DataW H × List MemPlace} (hu : P.underlying t = some (.array n e)) (he : P.underlying e = some (.int .u8)) (hce : P.cellsOf e = 1) (hct : P.cellsOf t = n)
    (h : DataW.trod enc P w base spare held fuel t cs = some x) : ∃ xs : List UInt8, xs.length = n ∧ cs = u8s xs := by
  obtain ⟨xs, m, _, _, hl, hxl, hel⟩ := DataW.trod_array hu h
  rw [hct] at hl
  have hcell : ∀ i, i < n → ∃ u : UInt8, cs[i]? = some (cell u) := by
    intro i hi
    have h1 := hel i hi
    rw [hce, Nat.mul_one, List.getElem?_eq_getElem (by omega)] at h1
    obtain ⟨k, hk, _, hw⟩ := DataW.trod_int he h1
    have hb := bounds_u8 hw
    refine ⟨UInt8.ofNat k.toNat, ?_⟩
    have : (cs.drop i)[0]? = some (.int .u8 k) := by
      have := congrArg (fun l => l[0]?) hk
      simpa using this
    rw [List.getElem?_drop] at this
    rw [Nat.add_zero] at this
    rw [this]
    unfold cell
    congr 2
    rw [UInt8.toNat_ofNat']
    show k = ((k.toNat % 256 : Nat) : Int)
    omega
  obtain ⟨f, hf⟩ := choose_lt (α := UInt8) hcell
  refine ⟨(List.range n).map f, by simp, ?_⟩
  apply List.ext_getElem?
  intro i
  unfold u8s
  by_cases hi : i < n
  · rw [hf i hi]
    simp [hi]
  · rw [List.getElem?_eq_none (by omega), List.getElem?_eq_none (by simp; omega)]

theorem drop_cut (cs : List Value) (a n b : Nat) (hb : a + n = b) : cs.drop a = (cs.drop a).take n ++ cs.drop b := by
  rw [← hb, ← List.drop_drop, List.take_append_drop]

/-- A family of elements as a list. -/
theorem list_of {α : Type} [Inhabited α] {n : Nat} {p : Nat → α → Prop} (h : ∀ i, i < n → ∃ x, p i x) : ∃ l : List α, l.length = n ∧ ∀ i (hi : i < l.length), p i l[i] := by
  obtain ⟨f, hf⟩ := choose_lt h
  exact ⟨(List.range n).map f, by simp, fun i hi => by simp at hi; simpa using hf i hi⟩
end

end Go.Proofs.Qxb6602613a.Mid
