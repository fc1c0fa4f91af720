import Derived.Test.Qxb6602613aMid
namespace Go.Proofs.Qxb6602613a.Mid
open Go.RowKit

section
variable {P : Program} {ops : Array Oper} {op : Oper} {a : Act} {w : World} {S : World → Prop} {Q : Exit → Act → World → Prop}

theorem exec_index {t e : TypeId} {x y : Operand} (ho : op.op = .indexAddr t x y) (b off n c k size : Nat) (hx : a.eval x = .slice (some ⟨b, off, none⟩) n c) (hy : a.eval y = .int .i64 (k : Int)) (hk : k < n)
    (hu : P.underlying t = some (.slice e)) (hs : (sizeOf e).run P w = .ok size w) : (execOp a.eval op).run P w = .ok (.value (.pointer (some ⟨b, off + k * size, none⟩))) w := by
  unfold execOp
  simp only [ho, hx, hy, Instr.indexAt, asIntOf, Sem.run_bind, Sem.run_pure, Result.andThen_ok, run_underlying hu]
  rw [if_pos (by omega)]
  simp only [Sem.run_bind, hs, Result.andThen_ok, Sem.run_pure, Int.toNat_natCast, Addr.add_mid]

theorem exec_load1 {ty : TypeId} {x : Operand} (ho : op.op = .load ty x) (b o : Nat) (v : Value) (d : TypeDesc) (hx : a.eval x = .pointer (some ⟨b, o, none⟩)) (hc : w.cell? ⟨b, o, none⟩ = some v)
    (hu : P.underlying ty = some d) (hd : d.isRow = false) : (execOp a.eval op).run P w = .ok (.value v) w := by
  have hagg : (isAgg ty).run P w = .ok false w := by
    unfold isAgg
    rw [Sem.run_bind, run_underlying hu w]
    cases d <;> simp_all
  unfold execOp
  simp only [ho, hx, Instr.loadAt, Instr.sureAddr, loadVar, Sem.run_bind, Sem.run_pure, Result.andThen_ok, hagg, Bool.false_eq_true, if_false]
  simp [go_sem, hc]

theorem take_val {v : Value} (hw : Region.wanted op (yielded ops a.tmps) = true) (h : ∀ w, S w → (execOp a.eval op).run P w = .ok (.value v) w) : YieldsIf P ops S op v a := .inl ⟨hw, h⟩

/-- 'wpAnyH_take', the slot named. -/
theorem take_at {md : Region.Mode} {v : Value} {fuel : Nat} {listed : Array Bool} (i d : Nat) (hi : ops[i]? = some op) (hd : op.dst = some d)
    (hs : Region.noSelect ops = true) (hf : Region.free md ops listed i = true) (hr : (Region.ready md ops listed).contains i = true)
    (hQ : ∀ c a w, Q (.panic c) (a.put (some d) v) w → Q (.panic c) a w) (hy : YieldsIf P ops S op v a) (hS : S w)
    (h : wpAnyH P md ops Q S fuel (listed.setIfInBounds i true) (a.put (some d) v) w) : wpAnyH P md ops Q S (fuel + 1) listed a w :=
  wpAnyH_take hi hs hf hr (by rw [hd]; exact hQ) hy hS (by rw [hd]; exact h)

/-- The one operation that may come up: a call of a Go function, by its contract. -/
theorem one_enter {md : Region.Mode} {fuel : Nat} {listed : Array Bool} (i d : Nat) (hi : ops[i]? = some op) (hd : op.dst = some d) (hr : Region.ready md ops listed = [i]) (hw : Region.wanted op (yielded ops a.tmps) = true)
    (f : FuncId) (args : Array Value) (hrun : (execOp a.eval op).run P w = .ok (.enter f args) w) (v : Value) (R : World → Prop) (hc : Calls P f args w fun e w' => e = .returned v ∧ R w')
    (h : ∀ w', R w' → S w' ∧ wpAnyH P md ops Q S fuel (listed.setIfInBounds i true) (a.put (some d) v) w') : wpAnyH P md ops Q S (fuel + 1) listed a w := by
  refine wpAnyH_all hr (by simp) ?_
  intro j hj
  obtain rfl := List.mem_singleton.1 hj
  refine wpOp_enter hi hw f args hrun v R hc ?_
  intro w' hR
  rw [hd]
  exact h w' hR

theorem one_val {md : Region.Mode} {fuel : Nat} {listed : Array Bool} (i d : Nat) (hi : ops[i]? = some op) (hd : op.dst = some d) (hr : Region.ready md ops listed = [i]) (hw : Region.wanted op (yielded ops a.tmps) = true)
    (v : Value) (w' : World) (hrun : (execOp a.eval op).run P w = .ok (.value v) w') (hS : S w') (h : wpAnyH P md ops Q S fuel (listed.setIfInBounds i true) (a.put (some d) v) w') : wpAnyH P md ops Q S (fuel + 1) listed a w := by
  refine wpAnyH_all hr (by simp) ?_
  intro j hj
  obtain rfl := List.mem_singleton.1 hj
  refine wpOp_val hi hw v w' hrun ⟨hS, ?_⟩
  rw [hd]
  exact h

theorem one_store {md : Region.Mode} {fuel : Nat} {listed : Array Bool} (i : Nat) (hi : ops[i]? = some op) (hd : op.dst = none) (hr : Region.ready md ops listed = [i]) (hw : Region.wanted op (yielded ops a.tmps) = true)
    (ty : TypeId) (x y : Operand) (ho : op.op = .store ty x y) (b o : Nat) (cs : List Value) (hx : a.eval x = .pointer (some ⟨b, o, none⟩)) (hy : a.eval y = .agg cs.toArray)
    (ht : w.there b o cs.length) (hz : (P.info? ty).map (·.size) = some cs.length) (h1 : ∀ v ∈ cs, v.oneCell' = true)
    (hS : S (w.setCells b o cs)) (h : wpAnyH P md ops Q S fuel (listed.setIfInBounds i true) a (w.setCells b o cs)) : wpAnyH P md ops Q S (fuel + 1) listed a w := by
  refine wpAnyH_all hr (by simp) ?_
  intro j hj
  obtain rfl := List.mem_singleton.1 hj
  unfold wpOp
  rw [hi]
  simp only [hw, if_true]
  left
  refine wp_store_mid ty x y ho b o cs.toArray hx hy (by simpa using ht) (by simpa using hz) (all_oneCell_toArray h1) ⟨by simpa using hS, ?_⟩
  rw [hd]
  simpa [Act.put] using h

end
end Go.Proofs.Qxb6602613a.Mid
