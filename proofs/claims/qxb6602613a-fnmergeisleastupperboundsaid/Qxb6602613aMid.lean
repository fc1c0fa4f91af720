/-
  Laws at the list of a region's operations for values of many cells (arrays, structs by value), over any program: loads, stores, builds; and the cells of this program's rows.
-/
import Derived.Test.Qxb6602613aProg
import Derived.WalkKit
import Derived.WalkLawsBesides
import Derived.WalkSpells
import Derived.BigQuiet
import Derived.Deep.MidRow
import Derived.Stop.BytesEq
namespace Go.Proofs.Qxb6602613a.Mid
open Go.RowKit
open Extern.Stop (cell)

section
variable {P : Program} {ops : Array Oper} {rest : List Oper} {op : Oper} {a : Act} {w : World} {Q : Exit → Act → World → Prop}

/-- An operation that is wanted and whose run is known. -/
theorem wpL_run (hw : Region.wanted op (yielded ops a.tmps) = true) (v : Value) (w' : World) (hrun : (execOp a.eval op).run P w = .ok (.value v) w')
    (h : wpList P ops Q rest (a.put op.dst v) w') : wpList P ops Q (op :: rest) a w :=
  wpList_step fun K hK => by rw [if_pos hw]; unfold Oper.wp; rw [hrun]; exact hK _ _ h

theorem wpL_load (hw : Region.wanted op (yielded ops a.tmps) = true) (ty : TypeId) (x : Operand) (ho : op.op = .load ty x)
    (b o : Nat) (hx : a.eval x = .pointer (some ⟨b, o, none⟩)) (cs : List Value) (d : TypeDesc) (hc : w.rangeAt b o cs)
    (hu : P.underlying ty = some d) (hd : d.isRow = true) (hi : (P.info? ty).map (·.size) = some cs.length)
    (h : wpList P ops Q rest (a.put op.dst (.agg cs.toArray)) w) : wpList P ops Q (op :: rest) a w :=
  wpList_step fun K hK => by rw [if_pos hw]; exact wp_load_mid ty x ho b o hx cs d hc hu hd hi (hK _ _ h)

theorem wpL_store (hw : Region.wanted op (yielded ops a.tmps) = true) (ty : TypeId) (x y : Operand) (ho : op.op = .store ty x y)
    (b o : Nat) (cs : List Value) (hx : a.eval x = .pointer (some ⟨b, o, none⟩)) (hy : a.eval y = .agg cs.toArray)
    (ht : w.there b o cs.length) (hi : (P.info? ty).map (·.size) = some cs.length) (h1 : ∀ v ∈ cs, v.oneCell' = true)
    (h : wpList P ops Q rest (a.put op.dst undef) (w.setCells b o cs)) : wpList P ops Q (op :: rest) a w :=
  wpList_step fun K hK => by rw [if_pos hw]; exact wp_store_mid ty x y ho b o cs.toArray hx hy (by simpa using ht) (by simpa using hi) (all_oneCell_toArray h1) (hK _ _ (by simpa using h))

theorem wpL_build (hw : Region.wanted op (yielded ops a.tmps) = true) (t : TypeId) (parts : List (Nat × Operand)) (ho : op.op = .build t parts.toArray) (ps : List (Nat × Value))
    (hp : parts.map (fun x => (x.1, a.eval x.2)) = ps) (v : Value) (hrun : (Instr.build t ps.toArray).run P w = .ok v w)
    (h : wpList P ops Q rest (a.put op.dst v) w) : wpList P ops Q (op :: rest) a w :=
  wpL_run hw v w (by subst hp; unfold execOp; simp only [ho, List.map_toArray, Sem.run_bind, hrun, Result.andThen_ok, Sem.run_pure]) h

/-- In a region that draws its order: the operation that comes up is run. -/
theorem wpOp_val {i : Nat} {K : Act → World → Prop} (hi : ops[i]? = some op) (hw : Region.wanted op (yielded ops a.tmps) = true) (v : Value) (w' : World) (hrun : (execOp a.eval op).run P w = .ok (.value v) w')
    (h : K (a.put op.dst v) w') : wpOp P ops Q i K a w := by
  unfold wpOp
  rw [hi]
  simp only [hw, if_true]
  left
  unfold Oper.wp
  rw [hrun]
  exact h
/-- .. and a call of a Go function by its contract. -/
theorem wpOp_enter {i : Nat} {K : Act → World → Prop} (hi : ops[i]? = some op) (hw : Region.wanted op (yielded ops a.tmps) = true) (f : FuncId) (args : Array Value) (hrun : (execOp a.eval op).run P w = .ok (.enter f args) w)
    (v : Value) (R : World → Prop) (hc : Calls P f args w fun e w' => e = .returned v ∧ R w') (h : ∀ w', R w' → K (a.put op.dst v) w') : wpOp P ops Q i K a w := by
  unfold wpOp
  rw [hi]
  simp only [hw, if_true]
  left
  unfold Oper.wp
  rw [hrun, Oper.upon_enter]
  refine hc.mono ?_
  rintro e w' ⟨rfl, hR⟩
  exact h w' hR

theorem results_mid1 {fn : Func} {p : Tmp} {ty : TypeId} (h : fn.results = #[.cell p ty]) (tmps : Array Value) (w : World) (b o : Nat) (cs : List Value) (d : TypeDesc)
    (hp : tmps.getD p undef = .pointer (some ⟨b, o, none⟩)) (hc : w.rangeAt b o cs)
    (hu : P.underlying ty = some d) (hd : d.isRow = true) (hi : (P.info? ty).map (·.size) = some cs.length) :
    (results fn tmps).run P w = .ok (.agg cs.toArray) w := by
  have hp' : tmps[p]?.getD undef = .pointer (some ⟨b, o, none⟩) := by simpa using hp
  simp [results, h, hp', asAddr, run_loadVar_mid w b o ty cs d hc hu hd hi]

theorem results_mid2 {fn : Func} {p t : Tmp} {ty : TypeId} (h : fn.results = #[.cell p ty, .tmp t]) (tmps : Array Value) (w : World) (b o : Nat) (cs : List Value) (d : TypeDesc)
    (hp : tmps.getD p undef = .pointer (some ⟨b, o, none⟩)) (hc : w.rangeAt b o cs)
    (hu : P.underlying ty = some d) (hd : d.isRow = true) (hi : (P.info? ty).map (·.size) = some cs.length) :
    (results fn tmps).run P w = .ok (.tuple #[.agg cs.toArray, tmps.getD t undef]) w := by
  have hp' : tmps[p]?.getD undef = .pointer (some ⟨b, o, none⟩) := by simpa using hp
  simp [results, h, hp', asAddr, run_loadVar_mid w b o ty cs d hc hu hd hi]
end

/-! ### 'build': the parts laid one behind the other -/
theorem fold_splice : ∀ (V pre rest : List Value) (off k : Nat), pre.length = off + k → V.length ≤ rest.length →
    (V.zipIdx k).foldl (fun (cs : Array Value) (x : Value × Nat) => cs.setIfInBounds (off + x.2) x.1) (pre ++ rest).toArray = (pre ++ V ++ rest.drop V.length).toArray
  | [], pre, rest, off, k, _, _ => by simp
  | v :: V, pre, [], off, k, _, h => by simp at h
  | v :: V, pre, r :: rest, off, k, hp, h => by
    rw [List.zipIdx_cons, List.foldl_cons]
    have e : (pre ++ r :: rest).toArray.setIfInBounds (off + k) v = ((pre ++ [v]) ++ rest).toArray := by
      rw [List.setIfInBounds_toArray, ← hp]
      simp
    simp only [e]
    rw [fold_splice V (pre ++ [v]) rest off (k + 1) (by simp; omega) (by simpa using h)]
    simp

theorem fill_next (place : Nat → Option (Nat × Nat)) (pre V rest : List Value) (i : Nat) (v : Value) (parts : List (Nat × Value))
    (hp : place i = some (pre.length, V.length)) (hv : v.cells = V.toArray) (hl : V.length ≤ rest.length) :
    Instr.fill place (pre ++ rest).toArray ((i, v) :: parts) = Instr.fill place ((pre ++ V) ++ rest.drop V.length).toArray parts := by
  rw [Instr.fill]
  simp only [hp, hv]
  rw [if_neg (by simp; omega)]
  congr 1
  have := fold_splice V pre rest pre.length 0 (by simp) hl
  rw [← this]
  rw [← Array.foldl_toList]
  simp

theorem build_run {P : Program} {w : World} (t : TypeId) (parts : Array (Nat × Value)) (fields : Array Field) (z : Value) (places : Array (Nat × Nat)) (cells : Array Value)
    (hz : (zeroValue t).run P w = .ok z w) (hu : P.underlying t = some (.struct fields))
    (hp : (fields.mapM fun (f : Field) => do pure (f.offset, ← sizeOf f.type)).run P w = .ok places w)
    (hf : Instr.fill (places[·]?) z.cells parts.toList = some cells) : (Instr.build t parts).run P w = .ok (.agg cells) w := by
  simp only [Instr.build, Sem.run_bind, hz, Result.andThen_ok, run_underlying hu, hp, hf, Sem.run_pure]

/-! ### ranges -/
theorem rangeAt_left {w : World} {b o : Nat} {xs ys : List Value} (h : w.rangeAt b o (xs ++ ys)) : w.rangeAt b o xs := fun j v hv =>
  h j v (by rw [List.getElem?_append_left (List.getElem?_eq_some_iff.1 hv).1]; exact hv)
theorem rangeAt_right {w : World} {b o : Nat} {xs ys : List Value} (n : Nat) (hn : o + xs.length = n) (h : w.rangeAt b o (xs ++ ys)) : w.rangeAt b n ys := fun j v hv => by
  have := h (xs.length + j) v (by rw [List.getElem?_append_right (by omega)]; simpa using hv)
  rw [← hn, Nat.add_assoc]; exact this
theorem rangeAt_cell {w : World} {b o : Nat} {x : Value} {ys : List Value} (h : w.rangeAt b o (x :: ys)) : w.cell? ⟨b, o, none⟩ = some x := by simpa using h 0 x rfl
theorem rangeAt_tail {w : World} {b o : Nat} {x : Value} {ys : List Value} (h : w.rangeAt b o (x :: ys)) : w.rangeAt b (o + 1) ys := rangeAt_right (xs := [x]) _ rfl h
theorem rangeAt_below {B : Nat} {w w' : World} {b o : Nat} {cs : List Value} (hb : Below B w w') (hB : b < B) (h : w.rangeAt b o cs) : w'.rangeAt b o cs := fun j v hv => by
  rw [hb.cell (by exact hB)]; exact h j v hv
theorem rangeAt_new (w : World) (cs : List Value) (t : TypeId) : (w.alloc (.cells cs.toArray t)).rangeAt w.heap.size 0 cs := fun j v hv => by
  rw [World.cell?_alloc_at _ _ _ _ rfl]; simpa using hv
theorem rangeAt_drewN {w : World} {b o : Nat} {cs : List Value} (h : w.rangeAt b o cs) (n : Nat) : (w.drewN n).rangeAt b o cs := h
theorem there_new (w : World) (cs : Array Value) (t : TypeId) : (w.alloc (.cells cs t)).there w.heap.size 0 cs.size := fun j hj => by
  rw [World.cell?_alloc_at _ _ _ _ rfl, World.frozen?_alloc_at _ _ _ _ rfl]
  simp [hj]
theorem there_below {B : Nat} {w w' : World} {b o n : Nat} (hb : Below B w w') (hB : b < B) (h : w.there b o n) : w'.there b o n := fun j hj => by
  rw [hb.cell (by exact hB), hb.frozen (by exact hB)]; exact h j hj

theorem below_setCells {B : Nat} {a : World} (b : Nat) (hB : B ≤ b) : ∀ (vs : List Value) (o : Nat) (w : World), Below B a w → Below B a (w.setCells b o vs)
  | [], _, _, h => h
  | v :: vs, o, w, h => by
    rw [World.setCells]
    exact below_setCells b hB vs (o + 1) _ (h.setCell hB v)
theorem size_setCells (b : Nat) : ∀ (vs : List Value) (o : Nat) (w : World), (w.setCells b o vs).heap.size = w.heap.size
  | [], _, _ => rfl
  | v :: vs, o, w => by rw [World.setCells, size_setCells b vs (o + 1)]; simp [World.setCell]

/-! ### bytes -/
def u8s (xs : List UInt8) : List Value := xs.map cell
theorem length_u8s (xs : List UInt8) : (u8s xs).length = xs.length := by simp [u8s]
attribute [local simp] length_u8s
theorem one_u8s (xs : List UInt8) : ∀ v ∈ u8s xs, v.oneCell' = true := by
  intro v hv
  simp only [u8s, List.mem_map] at hv
  obtain ⟨x, _, rfl⟩ := hv
  rfl

end Go.Proofs.Qxb6602613a.Mid
