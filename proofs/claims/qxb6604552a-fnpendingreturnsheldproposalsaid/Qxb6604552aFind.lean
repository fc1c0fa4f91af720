import Derived.Test.Qxb6604552aNode
import Derived.Deep.DeepMust
namespace Go.Proofs.Qxb6604552a.Node
open Go.RowKit Mid
attribute [local simp] length_u8s

section
variable {ops : Array Oper} {rest : List Oper} {op : Oper} {a : Act} {w : World} {Q : Exit → Act → World → Prop}
theorem size5 (w : World) : (sizeOf 5).run Try.prog w = .ok 1 w := by kernel_rfl
theorem guard30 : Try.prog.eqGuardType Try.prog.depth 30 = false := by kernel_rfl

theorem run_eql30 (w : World) (xs ys : List UInt8) (lx : xs.length = 32) (ly : ys.length = 32) : (binOp .eql 30 (.agg (u8s xs).toArray) (.agg (u8s ys).toArray)).run Try.prog w = .ok (.bool (xs == ys)) w :=
  run_eql_bytes w 30 5 32 Try.underlying30 Try.underlying5 size5 xs ys lx ly

theorem wpL_eql30 (hw : Region.wanted op (yielded ops a.tmps) = true) (x y : Operand) (ho : op.op = .binOp .eql 30 x y 30) (xs ys : List UInt8)
    (hx : a.eval x = .agg (u8s xs).toArray) (hy : a.eval y = .agg (u8s ys).toArray) (lx : xs.length = 32) (ly : ys.length = 32)
    (h : wpList Try.prog ops Q rest (a.put op.dst (.bool (xs == ys))) w) : wpList Try.prog ops Q (op :: rest) a w := by
  refine wpL_run hw _ w ?_ h
  unfold execOp
  simp only [ho, hx, hy, Sem.run_bind, run_eqGuard_agg w .eql 30 x y _ _ guard30, Result.andThen_ok, run_eql30 w xs ys lx ly, Sem.run_pure]

theorem wpL_neq30 (hw : Region.wanted op (yielded ops a.tmps) = true) (x y : Operand) (ho : op.op = .binOp .neq 30 x y 30) (xs ys : List UInt8)
    (hx : a.eval x = .agg (u8s xs).toArray) (hy : a.eval y = .agg (u8s ys).toArray) (lx : xs.length = 32) (ly : ys.length = 32)
    (h : wpList Try.prog ops Q rest (a.put op.dst (.bool (!(xs == ys)))) w) : wpList Try.prog ops Q (op :: rest) a w := by
  refine wpL_run hw _ w ?_ h
  unfold execOp
  have e : (binOp .neq 30 (.agg (u8s xs).toArray) (.agg (u8s ys).toArray)).run Try.prog w = .ok (.bool (!(xs == ys))) w := by
    rw [run_neq_struct]
    unfold u8s
    rw [run_equalIn_bytes w 9998 30 5 32 Try.underlying30 Try.underlying5 size5 xs ys lx ly]
    rfl
  simp only [ho, hx, hy, Sem.run_bind, run_eqGuard_agg w .neq 30 x y _ _ guard30, Result.andThen_ok, e, Sem.run_pure]

theorem wpL_load30 (hw : Region.wanted op (yielded ops a.tmps) = true) (x : Operand) (ho : op.op = .load 30 x)
    (b o : Nat) (hx : a.eval x = .pointer (some ⟨b, o, none⟩)) (xs : List UInt8) (hl : xs.length = 32) (hc : w.rangeAt b o (u8s xs))
    (h : wpList Try.prog ops Q rest (a.put op.dst (.agg (u8s xs).toArray)) w) : wpList Try.prog ops Q (op :: rest) a w :=
  wpL_load hw 30 x ho b o hx (u8s xs) _ hc Try.underlying30 rfl (by rw [size30]; simp [hl]) h

theorem wpL_load38 (hw : Region.wanted op (yielded ops a.tmps) = true) (x : Operand) (ho : op.op = .load 38 x)
    (b o : Nat) (hx : a.eval x = .pointer (some ⟨b, o, none⟩)) (r : Row) (hr : r.Ok) (hc : w.rangeAt b o (cells r))
    (h : wpList Try.prog ops Q rest (a.put op.dst (.agg (cells r).toArray)) w) : wpList Try.prog ops Q (op :: rest) a w :=
  wpL_load hw 38 x ho b o hx (cells r) _ hc Try.underlying38 rfl (by rw [size38, length_cells hr]) h

theorem wpL_load42 (hw : Region.wanted op (yielded ops a.tmps) = true) (x : Operand) (ho : op.op = .load 42 x)
    (b o : Nat) (hx : a.eval x = .pointer (some ⟨b, o, none⟩)) (r : Row) (hr : r.Ok) (hc : w.rangeAt b o (cells r))
    (h : wpList Try.prog ops Q rest (a.put op.dst (.agg (cells r).toArray)) w) : wpList Try.prog ops Q (op :: rest) a w :=
  wpL_load hw 42 x ho b o hx (cells r) _ hc Try.underlying42 rfl (by rw [size42, length_cells hr]) h

theorem wpL_store38 (hw : Region.wanted op (yielded ops a.tmps) = true) (x y : Operand) (ho : op.op = .store 38 x y)
    (b o : Nat) (r : Row) (hr : r.Ok) (hx : a.eval x = .pointer (some ⟨b, o, none⟩)) (hy : a.eval y = .agg (cells r).toArray)
    (ht : w.there b o 131) (h : wpList Try.prog ops Q rest (a.put op.dst undef) (w.setCells b o (cells r))) : wpList Try.prog ops Q (op :: rest) a w :=
  wpL_store hw 38 x y ho b o (cells r) hx hy (by rw [length_cells hr]; exact ht) (by rw [size38, length_cells hr]) (one_cells r) h
end

set_option maxRecDepth 100000 in
set_option maxHeartbeats 400000 in
theorem c29 (r : Row) (hr : r.Ok) (bi : Nat) (id : List UInt8) (hid : id.length = 32) (w : World) (hi : w.rangeAt bi 0 (u8s id)) :
    Calls Try.prog 29 #[.agg (cells r).toArray, .pointer (some ⟨bi, 0, none⟩)] w fun e w' => e = .returned (.bool (r.id == id)) ∧ Below w.heap.size w w' := by
  have hp : Parts (w.alloc (.cells (cells r).toArray 38)) w.heap.size 0 r := parts_of hr (rangeAt_new _ _ _)
  have hi' := World.rangeAt_alloc hi (.cells (cells r).toArray 38)
  go_enter Try.func29, Try.ntmps29
  go_wp2_with (first
    | (with_reducible show wpList _ _ _ (⟨_, .load 30 (.tmp 4), _, _, _, _⟩ :: _) _ _; refine wpL_load30 rfl _ rfl _ _ rfl r.id hr.id hp.id ?_)
    | (with_reducible show wpList _ _ _ (⟨_, .load 30 (.tmp 1), _, _, _, _⟩ :: _) _ _; refine wpL_load30 rfl _ rfl _ _ rfl id hid hi' ?_)
    | (with_reducible show wpList _ _ _ (⟨_, .binOp .eql 30 _ _ _, _, _, _, _⟩ :: _) _ _; refine wpL_eql30 rfl _ _ rfl r.id id rfl rfl hr.id hid ?_))
  go_ret
  exact ⟨rfl, (Below.refl _ _).alloc (Nat.le_refl _) _⟩

/-- The rows lie one behind the other from the head of block b on. -/
def RowsAt (w : World) (b : Nat) (rows : List Row) : Prop := ∀ i (h : i < rows.length), w.rangeAt b (i * 131) (cells rows[i])

/-- Where the first row with that ID stands, or -1. -/
def idx (id : List UInt8) (rows : List Row) : Int := match rows.findIdx? (fun r => r.id == id) with | some i => i | none => -1

theorem idx_hit {id : List UInt8} {rows : List Row} {k : Nat} (hk : k < rows.length) (h : (rows[k].id == id) = true) (hno : ∀ j (hj : j < rows.length), j < k → (rows[j].id == id) = false) : idx id rows = k := by
  have : rows.findIdx? (fun r => r.id == id) = some k := by
    rw [List.findIdx?_eq_some_iff_getElem]
    exact ⟨hk, h, fun j hj => by simpa using hno j (by omega) hj⟩
  simp [idx, this]
theorem idx_none {id : List UInt8} {rows : List Row} (hno : ∀ j (hj : j < rows.length), (rows[j].id == id) = false) : idx id rows = -1 := by
  have : rows.findIdx? (fun r => r.id == id) = none := by
    rw [List.findIdx?_eq_none_iff]
    intro r hr
    obtain ⟨j, hj, rfl⟩ := List.getElem_of_mem hr
    exact hno j hj
  simp [idx, this]

set_option maxRecDepth 100000 in
set_option maxHeartbeats 400000 in
theorem c28 (b cap : Nat) (rows : List Row) (hok : ∀ r ∈ rows, r.Ok) (bi : Nat) (id : List UInt8) (hid : id.length = 32) (w : World) (hn : rows.length ≤ 70000)
    (hb : b < w.heap.size) (hbi : bi < w.heap.size) (hrow : RowsAt w b rows) (hi : w.rangeAt bi 0 (u8s id)) (ao : Option Addr) (ha : rows.length ≠ 0 → ao = some ⟨b, 0, none⟩) :
    Calls Try.prog 28 #[.slice ao rows.length cap, .func (.func 29) #[] #[.pointer (some ⟨bi, 0, none⟩)]] w fun e w' => e = .returned (.int .i64 (idx id rows)) ∧ Below w.heap.size w w' := by
  go_enter Try.func28, Try.ntmps28
  go_wp2_with fail
  go_loopw [8, 5] (fun i _ wr => ∃ k : Nat, k ≤ rows.length ∧ i = .int .i64 k ∧ (∀ j (hj : j < rows.length), j < k → (rows[j].id == id) = false) ∧ Below w.heap.size w wr) (fun i _ _ => rows.length - (intOf i).toNat)
  case atStart => exact ⟨0, Nat.zero_le _, rfl, fun j _ h => by omega, Below.refl _ _⟩
  case round =>
    obtain ⟨k, hk, rfl, hno, hbel⟩ := hrel
    by_cases hlt : k < rows.length
    · have hR := rangeAt_below hbel hb (hrow k hlt)
      have hI := rangeAt_below hbel hbi hi
      have hrk := hok rows[k] (List.getElem_mem hlt)
      obtain rfl := ha (by omega)
      have HN : Hid (∀ j (hj : j < rows.length), j < k → (rows[j].id == id) = false) := hno
      clear hno
      have hcall := c29 rows[k] hrk bi id hid wr hI
      generalize hq : (rows[k].id == id) = q at hcall
      have HQ : Hid ((rows[k].id == id) = q) := hq
      clear hq
      go_wp2_with (with_reducible show wpList _ _ _ (⟨_, .load 38 (.tmp 14), _, _, _, _⟩ :: _) _ _; refine wpL_load38 rfl _ rfl b (k * 131) rfl rows[k] hrk hR ?_)
      refine hcall.mono ?_
      rintro e w2 ⟨rfl, hb2⟩
      have hbel2 : Below w.heap.size w w2 := hbel.trans (hb2.mono hbel.size)
      clear hcall
      cases q
      · go_wp2
        go_roundw
        case rel => exact ⟨k + 1, by omega, by go_num, fun j hj hjk => by
          by_cases e : j = k
          · subst e; exact HQ.out
          · exact HN.out j hj (by omega), hbel2⟩
        case measure => simp [intOf]; omega
      · go_wp2
        go_ret
        exact ⟨by rw [idx_hit hlt HQ.out HN.out]; rfl, hbel2⟩
    · have hk' : k = rows.length := by omega
      have hfin := idx_none (id := id) (rows := rows) (fun j hj => hno j hj (by omega))
      have HF : Hid (idx id rows = -1) := hfin
      clear hno hfin
      go_wp2
      go_ret
      exact ⟨by rw [HF.out]; rfl, hbel⟩

end Go.Proofs.Qxb6604552a.Node
