import Derived.Test.Qxb6604552aBig
namespace Go.Proofs.Qxb6604552a.Node
open Go.RowKit Mid
attribute [local simp] length_u8s

theorem part_row {P : Program} (w : World) (t : TypeId) (d : TypeDesc) (pre cs post : List Value) (off : Nat) (hu : P.underlying t = some d) (hd : d.isRow = true)
    (hs : ∀ w, (sizeOf t).run P w = .ok cs.length w) (ho : pre.length = off) : (part t (pre ++ (cs ++ post)).toArray off).run P w = .ok (.agg cs.toArray) w := by
  have hagg : (isAgg t).run P w = .ok true w := by
    unfold isAgg
    rw [Sem.run_bind, run_underlying hu w]
    cases d <;> simp_all
  simp only [part, Sem.run_bind, hagg, Result.andThen_ok, if_true, hs, Sem.run_pure]
  congr 2
  subst ho
  simp

theorem part_cell {P : Program} (w : World) (t : TypeId) (d : TypeDesc) (pre post : List Value) (v : Value) (off : Nat) (hu : P.underlying t = some d) (hd : d.isRow = false)
    (ho : pre.length = off) : (part t (pre ++ (v :: post)).toArray off).run P w = .ok v w := by
  have hagg : (isAgg t).run P w = .ok false w := by
    unfold isAgg
    rw [Sem.run_bind, run_underlying hu w]
    cases d <;> simp_all
  subst ho
  simp [part, Sem.run_bind, hagg]

/-- Each part of a struct equal to itself: the struct is. -/
theorem eqFields_step {P : Program} (w : World) (d : Nat) (xs : Array Value) (f : Field) (fs : List Field) (v : Value) (hn : f.name ≠ "_") (hp : (part f.type xs f.offset).run P w = .ok v w)
    (he : (Op.equalIn d f.type v v).run P w = .ok true w) (h : (Op.eqFields d xs xs fs).run P w = .ok true w) : (Op.eqFields d xs xs (f :: fs)).run P w = .ok true w := by
  simp only [Op.eqFields, hn, ne_eq, not_false_eq_true, if_true, Sem.run_bind, hp, Result.andThen_ok, he, Bool.not_true, Bool.false_eq_true, if_false, h]

theorem sz30 (w : World) : (sizeOf 30).run Try.prog w = .ok 32 w := by kernel_rfl
theorem sz32 (w : World) : (sizeOf 32).run Try.prog w = .ok 33 w := by kernel_rfl
theorem same30 (w : World) (d : Nat) (xs : List UInt8) (hx : xs.length = 32) : (Op.equalIn (d + 2) 30 (.agg (u8s xs).toArray) (.agg (u8s xs).toArray)).run Try.prog w = .ok true w := by
  have := run_equalIn_bytes w d 30 5 32 Try.underlying30 Try.underlying5 size5 xs xs hx hx
  rw [beq_self_eq_true] at this
  exact this

theorem same32 (w : World) (d : Nat) (xs : List UInt8) (v : Bool) (hx : xs.length = 32) : (Op.equalIn (d + 3) 32 (.agg (u8s xs ++ [Value.bool v]).toArray) (.agg (u8s xs ++ [Value.bool v]).toArray)).run Try.prog w = .ok true w := by
  rw [run_equalIn_struct w (d + 2) 32 _ _ (by kernel_rfl) (by kernel_rfl)]
  unfold Program.fieldsOf
  rw [Try.underlying32]
  refine eqFields_step w _ _ _ _ (.agg (u8s xs).toArray) (by decide) ?_ (same30 w d xs hx) (eqFields_step w _ _ _ _ (.bool v) (by decide) ?_ ?_ ?_)
  · exact part_row w 30 _ [] (u8s xs) [.bool v] 0 Try.underlying30 rfl (by intro w; rw [sz30, length_u8s, hx]) rfl
  · exact part_cell w 4 _ (u8s xs) [] (.bool v) 32 Try.underlying4 rfl (by simp [hx])
  · simp [go_sem, Try.underlying4]
  · simp [Op.eqFields]

theorem same38 (w : World) (r : Row) (hr : r.Ok) : (Op.equalIn 10000 38 (.agg (cells r).toArray) (.agg (cells r).toArray)).run Try.prog w = .ok true w := by
  rw [run_equalIn_struct w 9999 38 _ _ (by kernel_rfl) (by kernel_rfl)]
  unfold Program.fieldsOf
  rw [Try.underlying38]
  obtain ⟨h0, h2, h3, h5⟩ := hr
  refine eqFields_step w _ _ _ _ (.agg (u8s r.id).toArray) (by decide) ?_ (same30 w _ _ h0) (eqFields_step w _ _ _ _ (.int .i64 r.backend) (by decide) ?_ ?_ (eqFields_step w _ _ _ _ (.agg (u8s r.enc).toArray) (by decide) ?_ (same30 w _ _ h2)
    (eqFields_step w _ _ _ _ (.agg (u8s r.rek ++ [Value.bool r.valid]).toArray) (by decide) ?_ (same32 w _ _ _ h3) (eqFields_step w _ _ _ _ (.string r.addr) (by decide) ?_ ?_ (eqFields_step w _ _ _ _ (.agg (u8s r.reg).toArray) (by decide) ?_ (same30 w _ _ h5) ?_)))))
  · exact part_row w 30 _ [] (u8s r.id) (tail r) 0 Try.underlying30 rfl (by intro w; rw [sz30, length_u8s, h0]) rfl
  · exact part_cell w 36 _ (u8s r.id) _ _ 32 Try.underlying36 rfl (by simp [h0])
  · simp [go_sem, Try.underlying36]
  · have := part_row (P := Try.prog) w 30 _ (u8s r.id ++ [.int .i64 r.backend]) (u8s r.enc) (u8s r.rek ++ (.bool r.valid :: .string r.addr :: u8s r.reg)) 33 Try.underlying30 rfl (by intro w; rw [sz30, length_u8s, h2]) (by simp [h0])
    simpa [cells, tail] using this
  · have := part_row (P := Try.prog) w 32 _ (u8s r.id ++ (.int .i64 r.backend :: u8s r.enc)) (u8s r.rek ++ [.bool r.valid]) (.string r.addr :: u8s r.reg) 65 Try.underlying32 rfl (by intro w; rw [sz32]; simp [h3]) (by simp [h0, h2])
    simpa [cells, tail] using this
  · have := part_cell (P := Try.prog) w 9 _ (u8s r.id ++ (.int .i64 r.backend :: (u8s r.enc ++ (u8s r.rek ++ [.bool r.valid])))) (u8s r.reg) (.string r.addr) 98 Try.underlying9 rfl (by simp [h0, h2, h3])
    simpa [cells, tail] using this
  · simp [go_sem, Try.underlying9]
  · have := part_row (P := Try.prog) w 30 _ (u8s r.id ++ (.int .i64 r.backend :: (u8s r.enc ++ (u8s r.rek ++ [.bool r.valid, .string r.addr])))) (u8s r.reg) [] 99 Try.underlying30 rfl (by intro w; rw [sz30, length_u8s, h5]) (by simp [h0, h2, h3])
    simpa [cells, tail] using this
  · simp [Op.eqFields]

theorem guard38 : Try.prog.eqGuardType Try.prog.depth 38 = false := by kernel_rfl
theorem run_eql38 (w : World) (r : Row) (hr : r.Ok) : (binOp .eql 38 (.agg (cells r).toArray) (.agg (cells r).toArray)).run Try.prog w = .ok (.bool true) w := by
  rw [run_eql_struct, same38 w r hr]; rfl

theorem exec_eql38 {op : Oper} {a : Act} {w : World} (x y : Operand) (ho : op.op = .binOp .eql 38 x y 38) (r : Row) (hr : r.Ok)
    (hx : a.eval x = .agg (cells r).toArray) (hy : a.eval y = .agg (cells r).toArray) : (execOp a.eval op).run Try.prog w = .ok (.value (.bool true)) w := by
  unfold execOp
  simp only [ho, hx, hy, Sem.run_bind, run_eqGuard_agg w .eql 38 x y _ _ guard38, Result.andThen_ok, run_eql38 w r hr, Sem.run_pure]

theorem wpL_eql38 {ops : Array Oper} {rest : List Oper} {op : Oper} {a : Act} {w : World} {Q : Exit → Act → World → Prop} (hw : Region.wanted op (yielded ops a.tmps) = true) (x y : Operand) (ho : op.op = .binOp .eql 38 x y 38) (r : Row) (hr : r.Ok)
    (hx : a.eval x = .agg (cells r).toArray) (hy : a.eval y = .agg (cells r).toArray)
    (h : wpList Try.prog ops Q rest (a.put op.dst (.bool true)) w) : wpList Try.prog ops Q (op :: rest) a w := by
  exact wpL_run hw _ w (exec_eql38 x y ho r hr hx hy) h

end Go.Proofs.Qxb6604552a.Node
