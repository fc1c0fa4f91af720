import Derived.Test.Qxb6604552aMid
namespace Go.Proofs.Qxb6604552a.Node
open Go.RowKit Mid
attribute [local simp] length_u8s

/-- A node's row in plain fields. -/
structure Row where
  id : List UInt8
  backend : Int
  enc : List UInt8
  rek : List UInt8
  valid : Bool
  addr : ByteArray
  reg : List UInt8

structure Row.Ok (r : Row) : Prop where
  id : r.id.length = 32
  enc : r.enc.length = 32
  rek : r.rek.length = 32
  reg : r.reg.length = 32

def tail (r : Row) : List Value := .int .i64 r.backend :: (u8s r.enc ++ (u8s r.rek ++ (.bool r.valid :: .string r.addr :: u8s r.reg)))
def cells (r : Row) : List Value := u8s r.id ++ tail r
theorem length_tail {r : Row} (h : r.Ok) : (tail r).length = 99 := by simp [tail, h.enc, h.rek, h.reg]
theorem length_cells {r : Row} (h : r.Ok) : (cells r).length = 131 := by simp [cells, h.id, length_tail h]
theorem one_cells (r : Row) : ∀ v ∈ cells r, v.oneCell' = true := by
  intro v hv
  simp only [cells, tail, List.mem_append, List.mem_cons] at hv
  rcases hv with hv | rfl | hv | hv | rfl | rfl | hv
  · exact one_u8s _ v hv
  · rfl
  · exact one_u8s _ v hv
  · exact one_u8s _ v hv
  · rfl
  · rfl
  · exact one_u8s _ v hv

structure Parts (w : World) (b o : Nat) (r : Row) : Prop where
  id : w.rangeAt b o (u8s r.id)
  backend : w.cell? ⟨b, o + 32, none⟩ = some (.int .i64 r.backend)
  enc : w.rangeAt b (o + 33) (u8s r.enc)
  rek : w.rangeAt b (o + 65) (u8s r.rek)
  valid : w.cell? ⟨b, o + 97, none⟩ = some (.bool r.valid)
  addr : w.cell? ⟨b, o + 98, none⟩ = some (.string r.addr)
  reg : w.rangeAt b (o + 99) (u8s r.reg)

theorem parts_of {w : World} {b o : Nat} {r : Row} (hr : r.Ok) (h : w.rangeAt b o (cells r)) : Parts w b o r := by
  have t0 := rangeAt_right (o + 32) (by simp [hr.id]) h
  have t1 := rangeAt_tail t0
  have t2 := rangeAt_right (o + 65) (by simp [hr.enc]) t1
  have t3 := rangeAt_right (o + 97) (by simp [hr.rek]) t2
  have t4 := rangeAt_tail t3
  exact ⟨rangeAt_left h, rangeAt_cell t0, rangeAt_left t1, rangeAt_left t2, rangeAt_cell t3, rangeAt_cell t4, rangeAt_tail t4⟩

def z38 : List Value := List.replicate 32 (.int .u8 0) ++ [.int .i64 0] ++ List.replicate 64 (.int .u8 0) ++ [.bool false, .string ByteArray.empty] ++ List.replicate 32 (.int .u8 0)
theorem zero38 (w : World) : (zeroValue 38).run Try.prog w = .ok (.agg z38.toArray) w := by kernel_rfl
def z32 : List Value := List.replicate 32 (.int .u8 0) ++ [.bool false]
theorem zero32 (w : World) : (zeroValue 32).run Try.prog w = .ok (.agg z32.toArray) w := by kernel_rfl
theorem length_z38 : z38.length = 131 := by kernel_rfl
theorem length_z32 : z32.length = 33 := by kernel_rfl
theorem size23 : (Try.prog.info? 23).map (·.size) = some 32 := by kernel_rfl
theorem size30 : (Try.prog.info? 30).map (·.size) = some 32 := by kernel_rfl
theorem size38 : (Try.prog.info? 38).map (·.size) = some 131 := by kernel_rfl
theorem size42 : (Try.prog.info? 42).map (·.size) = some 131 := by kernel_rfl

theorem build32 (w : World) (a : List UInt8) (v : Bool) (ha : a.length = 32) :
    (Instr.build 32 #[(0, .agg (u8s a).toArray), (1, .bool v)]).run Try.prog w = .ok (.agg (u8s a ++ [Value.bool v]).toArray) w := by
  refine build_run 32 _ _ _ #[(0, 32), (32, 1)] _ (zero32 w) Try.underlying32 (by kernel_rfl) ?_
  have e1 := fill_next (#[(0, 32), (32, 1)][·]?) [] (u8s a) z32 0 (.agg (u8s a).toArray) [(1, .bool v)] (by simp [ha]) rfl (by simp [ha, length_z32])
  have e2 := fill_next (#[(0, 32), (32, 1)][·]?) (u8s a) [.bool v] (z32.drop 32) 1 (.bool v) [] (by simp [ha]) rfl (by simp [length_z32])
  simp only [List.nil_append, length_u8s, ha] at e1
  show Instr.fill _ z32.toArray _ = _
  rw [e1, e2, Instr.fill]
  simp [length_z32]

theorem build38 (w : World) (r : Row) (hr : r.Ok) :
    (Instr.build 38 #[(0, .agg (u8s r.id).toArray), (1, .int .i64 r.backend), (2, .agg (u8s r.enc).toArray), (3, .agg (u8s r.rek ++ [Value.bool r.valid]).toArray), (4, .string r.addr), (5, .agg (u8s r.reg).toArray)]).run Try.prog w = .ok (.agg (cells r).toArray) w := by
  refine build_run 38 _ _ _ #[(0, 32), (32, 1), (33, 32), (65, 33), (98, 1), (99, 32)] _ (zero38 w) Try.underlying38 (by kernel_rfl) ?_
  obtain ⟨h0, h2, h3, h5⟩ := hr
  generalize hp : (fun x : Nat => #[(0, 32), (32, 1), (33, 32), (65, 33), (98, 1), (99, 32)][x]?) = place
  show Instr.fill _ z38.toArray _ = _
  rw [show z38 = [] ++ z38 from rfl]
  rw [fill_next place [] (u8s r.id) z38 0 _ _ (by subst hp; simp [h0]) rfl (by simp [h0, length_z38])]
  rw [fill_next place _ [.int .i64 r.backend] _ 1 _ _ (by subst hp; simp [h0]) rfl (by simp [h0, length_z38])]
  rw [fill_next place _ (u8s r.enc) _ 2 _ _ (by subst hp; simp [h0, h2]) rfl (by simp [h0, h2, length_z38])]
  rw [fill_next place _ (u8s r.rek ++ [Value.bool r.valid]) _ 3 _ _ (by subst hp; simp [h0, h2, h3]) rfl (by simp [h0, h2, h3, length_z38])]
  rw [fill_next place _ [.string r.addr] _ 4 _ _ (by subst hp; simp [h0, h2, h3]) rfl (by simp [h0, h2, h3, length_z38])]
  rw [fill_next place _ (u8s r.reg) _ 5 _ _ (by subst hp; simp [h0, h2, h3, h5]) rfl (by simp [h0, h2, h3, h5, length_z38])]
  rw [Instr.fill]
  simp [h0, h2, h3, h5, length_z38, cells, tail]


set_option maxRecDepth 100000 in
set_option maxHeartbeats 400000 in
theorem c12 (r : Row) (hr : r.Ok) (w : World) :
    Calls Try.prog 12 #[.agg (cells r).toArray] w fun e w' => e = .returned (.agg (cells r).toArray) ∧ Below w.heap.size w w' := by
  have hz := zero38
  have hp : Parts ((w.alloc (.cells (cells r).toArray 42)).alloc (.cells z38.toArray 38)) w.heap.size 0 r := parts_of hr (World.rangeAt_alloc (rangeAt_new _ _ _) _)
  have ht : ((w.alloc (.cells (cells r).toArray 42)).alloc (.cells z38.toArray 38)).there (w.heap.size + 1) 0 131 := by
    have := there_new (w.alloc (.cells (cells r).toArray 42)) z38.toArray 38
    simpa [length_z38] using this
  have p1 := hp.backend
  have p2 := hp.valid
  have p3 := hp.addr
  simp only [Nat.zero_add] at p1 p2 p3
  go_enter Try.func12, Try.ntmps12
  go_wp2_with (first
    | (with_reducible show wpList _ _ _ (⟨_, .load 23 (.tmp 3), _, _, _, _⟩ :: _) _ _; refine wpL_load rfl 23 _ rfl w.heap.size 0 rfl (u8s r.id) _ hp.id Try.underlying23 rfl (by rw [size23]; simp [hr.id]) ?_)
    | (with_reducible show wpList _ _ _ (⟨_, .load 23 (.tmp 7), _, _, _, _⟩ :: _) _ _; refine wpL_load rfl 23 _ rfl w.heap.size 33 rfl (u8s r.enc) _ hp.enc Try.underlying23 rfl (by rw [size23]; simp [hr.enc]) ?_)
    | (with_reducible show wpList _ _ _ (⟨_, .load 23 (.tmp 9), _, _, _, _⟩ :: _) _ _; refine wpL_load rfl 23 _ rfl w.heap.size 65 rfl (u8s r.rek) _ hp.rek Try.underlying23 rfl (by rw [size23]; simp [hr.rek]) ?_)
    | (with_reducible show wpList _ _ _ (⟨_, .load 23 (.tmp 16), _, _, _, _⟩ :: _) _ _; refine wpL_load rfl 23 _ rfl w.heap.size 99 rfl (u8s r.reg) _ hp.reg Try.underlying23 rfl (by rw [size23]; simp [hr.reg]) ?_)
    | (with_reducible show wpList _ _ _ (⟨_, .build 32 _, _, _, _, _⟩ :: _) _ _; refine wpL_build rfl 32 [(0, .tmp 10), (1, .tmp 12)] rfl [(0, .agg (u8s r.rek).toArray), (1, .bool r.valid)] rfl _ (build32 _ r.rek r.valid hr.rek) ?_)
    | (with_reducible show wpList _ _ _ (⟨_, .build 38 _, _, _, _, _⟩ :: _) _ _; refine wpL_build rfl 38 [(0, .tmp 4), (1, .tmp 6), (2, .tmp 8), (3, .tmp 13), (4, .tmp 15), (5, .tmp 17)] rfl [(0, .agg (u8s r.id).toArray), (1, .int .i64 r.backend), (2, .agg (u8s r.enc).toArray), (3, .agg (u8s r.rek ++ [Value.bool r.valid]).toArray), (4, .string r.addr), (5, .agg (u8s r.reg).toArray)] rfl _ (build38 _ r hr) ?_)
    | (with_reducible show wpList _ _ _ (⟨_, .store 38 _ _, _, _, _, _⟩ :: _) _ _; refine wpL_store rfl 38 _ _ rfl (w.heap.size + 1) 0 (cells r) rfl rfl (by rw [length_cells hr]; exact ht) (by rw [size38, length_cells hr]) (one_cells r) ?_))
  refine bodyPost_ret (v := .agg (cells r).toArray) ?_ rfl ⟨rfl, ?_⟩
  · exact results_mid1 Try.results12 _ _ (w.heap.size + 1) 0 (cells r) _ rfl (World.rangeAt_setCells_same _ _ _ _ (by rw [length_cells hr]; exact ht)) Try.underlying38 rfl (by rw [size38, length_cells hr])
  · exact below_setCells _ (by omega) _ _ _ (((Below.refl _ _).alloc (Nat.le_refl _) _).alloc (by simp) _)

end Go.Proofs.Qxb6604552a.Node
