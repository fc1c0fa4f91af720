import Derived.Test.Qxb6604552aVals
namespace Go.Proofs.Qxb6604552a.Pend
open Go.RowKit Mid
open Go.Proofs.Qxb6604552a.Node (wpL_load30 wpL_eql30 wpL_neq30 size23 size30 size5)
attribute [local simp] length_u8s

/-- A pending proposal's plain fields. -/
structure Pd where
  prop : List UInt8
  gen : Int
  ep : Int
  chk : List UInt8
  sig : List UInt8
structure Pd.Ok (p : Pd) : Prop where
  prop : p.prop.length = 32
  chk : p.chk.length = 32
  sig : p.sig.length = 32
def p57 (p : Pd) (v1 : Value) : List Value := .int .u64 p.gen :: .int .u64 p.ep :: (u8s p.chk ++ (u8s p.sig ++ [v1]))
def pcells (p : Pd) (v1 v2 : Value) : List Value := u8s p.prop ++ (p57 p v1 ++ [v2])
theorem length_p57 {p : Pd} (h : p.Ok) (v1 : Value) : (p57 p v1).length = 67 := by simp [p57, h.chk, h.sig]
theorem length_pcells {p : Pd} (h : p.Ok) (v1 v2 : Value) : (pcells p v1 v2).length = 100 := by simp [pcells, h.prop, length_p57 h]
theorem one_pcells {p : Pd} {v1 v2 : Value} (h1 : v1.oneCell' = true) (h2 : v2.oneCell' = true) : ∀ v ∈ pcells p v1 v2, v.oneCell' = true := by
  intro v hv
  simp only [pcells, p57, List.mem_append, List.mem_cons, List.not_mem_nil, or_false] at hv
  rcases hv with hv | (rfl | rfl | hv | hv | rfl) | rfl
  · exact one_u8s _ v hv
  · rfl
  · rfl
  · exact one_u8s _ v hv
  · exact one_u8s _ v hv
  · exact h1
  · exact h2

structure PParts (w : World) (b : Nat) (p : Pd) (v1 v2 : Value) : Prop where
  prop : w.rangeAt b 0 (u8s p.prop)
  gen : w.cell? ⟨b, 32, none⟩ = some (.int .u64 p.gen)
  ep : w.cell? ⟨b, 33, none⟩ = some (.int .u64 p.ep)
  chk : w.rangeAt b 34 (u8s p.chk)
  sig : w.rangeAt b 66 (u8s p.sig)
  cts : w.cell? ⟨b, 98, none⟩ = some v1
  conf : w.cell? ⟨b, 99, none⟩ = some v2

theorem pparts_of {w : World} {b : Nat} {p : Pd} {v1 v2 : Value} (hp : p.Ok) (h : w.rangeAt b 0 (pcells p v1 v2)) : PParts w b p v1 v2 := by
  have t0 := rangeAt_right 32 (by simp [hp.prop]) h
  have t1 := rangeAt_left t0
  have t2 := rangeAt_tail (rangeAt_tail t1)
  have t3 := rangeAt_right 66 (by simp [hp.chk]) t2
  have t4 := rangeAt_right 98 (by simp [hp.sig]) t3
  have t5 := rangeAt_right 99 (by rw [length_p57 hp]) t0
  exact ⟨rangeAt_left h, rangeAt_cell t1, rangeAt_cell (rangeAt_tail t1), rangeAt_left t2, rangeAt_left t3, rangeAt_cell t4, rangeAt_cell t5⟩

def z57 : List Value := [.int .u64 0, .int .u64 0] ++ List.replicate 64 (.int .u8 0) ++ [.slice none 0 0]
def z59 : List Value := List.replicate 32 (.int .u8 0) ++ z57 ++ [.slice none 0 0]
theorem zero57 (w : World) : (zeroValue 57).run Try.prog w = .ok (.agg z57.toArray) w := by kernel_rfl
theorem zero59 (w : World) : (zeroValue 59).run Try.prog w = .ok (.agg z59.toArray) w := by kernel_rfl
theorem length_z57 : z57.length = 67 := by kernel_rfl
theorem length_z59 : z59.length = 100 := by kernel_rfl
theorem size59 : (Try.prog.info? 59).map (·.size) = some 100 := by kernel_rfl

theorem build57 (w : World) (p : Pd) (hp : p.Ok) (v1 : Value) (h1 : v1.cells = #[v1]) :
    (Instr.build 57 #[(0, .int .u64 p.gen), (1, .int .u64 p.ep), (2, .agg (u8s p.chk).toArray), (3, .agg (u8s p.sig).toArray), (4, v1)]).run Try.prog w = .ok (.agg (p57 p v1).toArray) w := by
  refine build_run 57 _ _ _ #[(0, 1), (1, 1), (2, 32), (34, 32), (66, 1)] _ (zero57 w) Try.underlying57 (by kernel_rfl) ?_
  obtain ⟨_, hc, hs⟩ := hp
  generalize hpl : (fun x : Nat => #[(0, 1), (1, 1), (2, 32), (34, 32), (66, 1)][x]?) = place
  show Instr.fill _ z57.toArray _ = _
  rw [show z57 = [] ++ z57 from rfl]
  rw [fill_next place [] [.int .u64 p.gen] z57 0 _ _ (by subst hpl; simp) rfl (by simp [length_z57])]
  rw [fill_next place _ [.int .u64 p.ep] _ 1 _ _ (by subst hpl; simp) rfl (by simp [length_z57])]
  rw [fill_next place _ (u8s p.chk) _ 2 _ _ (by subst hpl; simp [hc]) rfl (by simp [hc, length_z57])]
  rw [fill_next place _ (u8s p.sig) _ 3 _ _ (by subst hpl; simp [hc, hs]) rfl (by simp [hc, hs, length_z57])]
  rw [fill_next place _ [v1] _ 4 _ _ (by subst hpl; simp [hc, hs]) h1 (by simp [hc, hs, length_z57])]
  rw [Instr.fill]
  simp [hc, hs, length_z57, p57]

theorem build59 (w : World) (p : Pd) (hp : p.Ok) (v1 v2 : Value) (h2 : v2.cells = #[v2]) :
    (Instr.build 59 #[(0, .agg (u8s p.prop).toArray), (1, .agg (p57 p v1).toArray), (2, v2)]).run Try.prog w = .ok (.agg (pcells p v1 v2).toArray) w := by
  refine build_run 59 _ _ _ #[(0, 32), (32, 67), (99, 1)] _ (zero59 w) Try.underlying59 (by kernel_rfl) ?_
  have hl := length_p57 hp v1
  have h0 := hp.prop
  generalize hpl : (fun x : Nat => #[(0, 32), (32, 67), (99, 1)][x]?) = place
  show Instr.fill _ z59.toArray _ = _
  rw [show z59 = [] ++ z59 from rfl]
  rw [fill_next place [] (u8s p.prop) z59 0 _ _ (by subst hpl; simp [h0]) rfl (by simp [h0, length_z59])]
  rw [fill_next place _ (p57 p v1) _ 1 _ _ (by subst hpl; simp [h0, hl]) rfl (by simp [h0, hl, length_z59])]
  rw [fill_next place _ [v2] _ 2 _ _ (by subst hpl; simp [h0, hl]) h2 (by simp [h0, hl, length_z59])]
  rw [Instr.fill]
  simp [h0, hl, length_z59, pcells]

theorem build59_zero (w : World) : (Instr.build 59 #[]).run Try.prog w = .ok (.agg z59.toArray) w :=
  build_run 59 _ _ _ #[(0, 32), (32, 67), (99, 1)] _ (zero59 w) Try.underlying59 (by kernel_rfl) rfl

theorem exec_build57 {op : Oper} {a : Act} {w : World} (x0 x1 x2 x3 x4 : Operand) (ho : op.op = .build 57 #[(0, x0), (1, x1), (2, x2), (3, x3), (4, x4)]) (p : Pd) (hp : p.Ok) (v1 : Value) (h1 : v1.cells = #[v1])
    (e0 : a.eval x0 = .int .u64 p.gen) (e1 : a.eval x1 = .int .u64 p.ep) (e2 : a.eval x2 = .agg (u8s p.chk).toArray) (e3 : a.eval x3 = .agg (u8s p.sig).toArray) (e4 : a.eval x4 = v1) :
    (execOp a.eval op).run Try.prog w = .ok (.value (.agg (p57 p v1).toArray)) w := by
  have hb := build57 w p hp v1 h1
  unfold execOp
  simp only [ho, List.map_toArray, List.map_cons, List.map_nil, e0, e1, e2, e3, e4, Sem.run_bind, hb, Result.andThen_ok, Sem.run_pure]

theorem exec_build59 {op : Oper} {a : Act} {w : World} (x0 x1 x2 : Operand) (ho : op.op = .build 59 #[(0, x0), (1, x1), (2, x2)]) (p : Pd) (hp : p.Ok) (v1 v2 : Value) (h2 : v2.cells = #[v2])
    (e0 : a.eval x0 = .agg (u8s p.prop).toArray) (e1 : a.eval x1 = .agg (p57 p v1).toArray) (e2 : a.eval x2 = v2) :
    (execOp a.eval op).run Try.prog w = .ok (.value (.agg (pcells p v1 v2).toArray)) w := by
  have hb := build59 w p hp v1 v2 h2
  unfold execOp
  simp only [ho, List.map_toArray, List.map_cons, List.map_nil, e0, e1, e2, Sem.run_bind, hb, Result.andThen_ok, Sem.run_pure]

/-- What a pending proposal in block bp is: the row, and where its two slices lead. -/
structure PendAt (w : World) (bp : Nat) (p : Pd) (l1 l2 : Loc) (cts : List Ct) (vals : List (List UInt8)) : Prop where
  row : w.rangeAt bp 0 (pcells p (l1.val cts.length) (l2.val vals.length))
  lt : bp < w.heap.size
  cts : CtsLie w l1 cts
  vals : ValsLie w l2 vals

theorem PendAt.below {w w' : World} {bp B : Nat} {p : Pd} {l1 l2 : Loc} {cts : List Ct} {vals : List (List UInt8)} (h : PendAt w bp p l1 l2 cts vals) (hb : Below B w w') (hB : w.heap.size ≤ B) : PendAt w' bp p l1 l2 cts vals :=
  ⟨rangeAt_below hb (Nat.lt_of_lt_of_le h.lt hB) h.row, Nat.lt_of_lt_of_le h.lt hb.size, h.cts.below hb hB, h.vals.below hb hB⟩

theorem load23_yields {ops : Array Oper} {S : World → Prop} {op : Oper} {a : Act} (hw : Region.wanted op (yielded ops a.tmps) = true) (x : Operand) (ho : op.op = .load 23 x) (b o : Nat) (hx : a.eval x = .pointer (some ⟨b, o, none⟩))
    (xs : List UInt8) (hl : xs.length = 32) (hS : ∀ w, S w → w.rangeAt b o (u8s xs)) : YieldsIf Try.prog ops S op (.agg (u8s xs).toArray) a :=
  yieldsIf_load_mid hw 23 x ho b o hx (u8s xs) _ hS Try.underlying23 rfl (by rw [size23]; simp [hl])

set_option maxRecDepth 100000 in
set_option maxHeartbeats 1000000 in
theorem c17 (p : Pd) (hp : p.Ok) (l1 l2 : Loc) (cts : List Ct) (vals : List (List UInt8)) (w : World) (hn1 : cts.length ≤ 65536) (hn2 : vals.length ≤ 65536) (h1 : CtsLie w l1 cts) (h2 : ValsLie w l2 vals) :
    Calls Try.prog 17 #[.agg (u8s p.prop).toArray, .int .u64 p.gen, .int .u64 p.ep, .agg (u8s p.chk).toArray, .agg (u8s p.sig).toArray, l1.val cts.length, l2.val vals.length] w
      fun e w' => ∃ bp m1 m2 new, e = .returned (.pointer (some ⟨bp, 0, none⟩)) ∧ SameAll new cts ∧ m1.ao.isNone = l1.ao.isNone ∧ m2.ao.isNone = l2.ao.isNone ∧ PendAt w' bp p m1 m2 new vals ∧ Below w.heap.size w w' := by
  have B1 : Below w.heap.size w (((w.alloc (.cells (u8s p.prop).toArray 23)).alloc (.cells (u8s p.chk).toArray 23)).alloc (.cells (u8s p.sig).toArray 23)) := (((Below.refl _ _).alloc (Nat.le_refl _) _).alloc (by simp) _).alloc (by simp; omega) _
  have r0 := World.rangeAt_alloc (World.rangeAt_alloc (rangeAt_new w (u8s p.prop) 23) (.cells (u8s p.chk).toArray 23)) (.cells (u8s p.sig).toArray 23)
  have r1 := World.rangeAt_alloc (rangeAt_new (w.alloc (.cells (u8s p.prop).toArray 23)) (u8s p.chk) 23) (.cells (u8s p.sig).toArray 23)
  have r2 := rangeAt_new ((w.alloc (.cells (u8s p.prop).toArray 23)).alloc (.cells (u8s p.chk).toArray 23)) (u8s p.sig) 23
  have sz : (((w.alloc (.cells (u8s p.prop).toArray 23)).alloc (.cells (u8s p.chk).toArray 23)).alloc (.cells (u8s p.sig).toArray 23)).heap.size = w.heap.size + 3 := by simp
  simp only [World.size_alloc] at r1 r2
  have g1 := h1.below B1 (Nat.le_refl _)
  have g2 := h2.below B1 (Nat.le_refl _)
  go_enter Try.func17, Try.ntmps17
  go_wp2
  generalize hw1 : ((w.alloc (.cells (u8s p.prop).toArray 23)).alloc (.cells (u8s p.chk).toArray 23)).alloc (.cells (u8s p.sig).toArray 23) = w1 at *
  clear hw1
  refine wp_region_held (S := fun w' => w'.rangeAt w.heap.size 0 (u8s p.prop) ∧ w'.rangeAt (w.heap.size + 1) 0 (u8s p.chk) ∧ w'.rangeAt (w.heap.size + 1 + 1) 0 (u8s p.sig)) (by kernel_rfl) ?_
  have hS : w1.drew.rangeAt w.heap.size 0 (u8s p.prop) ∧ w1.drew.rangeAt (w.heap.size + 1) 0 (u8s p.chk) ∧ w1.drew.rangeAt (w.heap.size + 1 + 1) 0 (u8s p.sig) := ⟨r0, r1, r2⟩
  refine take_at 0 15 rfl rfl (by decide +kernel) (by decide +kernel) (by decide +kernel) (fun _ _ _ h => h) (load23_yields rfl _ rfl w.heap.size 0 rfl p.prop hp.prop (fun _ h => h.1)) hS ?_
  simp only [Act.put, List.setIfInBounds_toArray, List.set_cons_zero, List.set_cons_succ]
  refine take_at 1 16 rfl rfl (by decide +kernel) (by decide +kernel) (by decide +kernel) (fun _ _ _ h => h) (take_val rfl (fun _ _ => rfl)) hS ?_
  simp only [Act.put, List.setIfInBounds_toArray, List.set_cons_zero, List.set_cons_succ]
  refine take_at 2 17 rfl rfl (by decide +kernel) (by decide +kernel) (by decide +kernel) (fun _ _ _ h => h) (take_val rfl (fun _ _ => rfl)) hS ?_
  simp only [Act.put, List.setIfInBounds_toArray, List.set_cons_zero, List.set_cons_succ]
  refine take_at 3 18 rfl rfl (by decide +kernel) (by decide +kernel) (by decide +kernel) (fun _ _ _ h => h) (load23_yields rfl _ rfl (w.heap.size + 1) 0 rfl p.chk hp.chk (fun _ h => h.2.1)) hS ?_
  simp only [Act.put, List.setIfInBounds_toArray, List.set_cons_zero, List.set_cons_succ]
  refine take_at 4 19 rfl rfl (by decide +kernel) (by decide +kernel) (by decide +kernel) (fun _ _ _ h => h) (load23_yields rfl _ rfl (w.heap.size + 1 + 1) 0 rfl p.sig hp.sig (fun _ h => h.2.2)) hS ?_
  simp only [Act.put, List.setIfInBounds_toArray, List.set_cons_zero, List.set_cons_succ]
  refine take_at 5 20 rfl rfl (by decide +kernel) (by decide +kernel) (by decide +kernel) (fun _ _ _ h => h) (take_val rfl (fun _ _ => rfl)) hS ?_
  simp only [Act.put, List.setIfInBounds_toArray, List.set_cons_zero, List.set_cons_succ]
  refine take_at 8 23 rfl rfl (by decide +kernel) (by decide +kernel) (by decide +kernel) (fun _ _ _ h => h) (take_val rfl (fun _ _ => rfl)) hS ?_
  simp only [Act.put, List.setIfInBounds_toArray, List.set_cons_zero, List.set_cons_succ]
  have Bd : Below w1.heap.size w1 w1.drew := (Below.refl _ _).drew
  have g1' := g1.below Bd (Nat.le_refl _)
  have g2' := g2.below Bd (Nat.le_refl _)
  refine one_enter 6 21 rfl rfl (by decide +kernel) rfl 31 #[l1.val cts.length] (by kernel_rfl) _ _ (c31 l1 cts w1.drew hn1 g1') ?_
  simp only [Act.put, List.setIfInBounds_toArray, List.set_cons_zero, List.set_cons_succ]
  rintro w2 ⟨new, hsame, hl1, B2⟩
  have hn1' := made_nil l1 cts.length w1.drew
  generalize made l1 cts.length w1.drew = m1 at *
  have sz' : w1.drew.heap.size = w.heap.size + 3 := sz
  have hS2 : w2.rangeAt w.heap.size 0 (u8s p.prop) ∧ w2.rangeAt (w.heap.size + 1) 0 (u8s p.chk) ∧ w2.rangeAt (w.heap.size + 1 + 1) 0 (u8s p.sig) :=
    ⟨rangeAt_below B2 (by omega) hS.1, rangeAt_below B2 (by omega) hS.2.1, rangeAt_below B2 (by omega) hS.2.2⟩
  have B12 : Below w.heap.size w w2 := (B1.drew).trans (B2.mono (by omega))
  have g2'' := g2'.below B2 (Nat.le_refl _)
  have hsz2 : w.heap.size + 3 ≤ w2.heap.size := by have := B2.size; omega
  refine ⟨hS2, ?_⟩
  refine take_at 7 22 rfl rfl (by decide +kernel) (by decide +kernel) (by decide +kernel) (fun _ _ _ h => h) (take_val rfl (fun _ _ => exec_build57 _ _ _ _ _ rfl p hp (m1.val cts.length) rfl rfl rfl rfl rfl rfl)) hS2 ?_
  simp only [Act.put, List.setIfInBounds_toArray, List.set_cons_zero, List.set_cons_succ]
  refine one_enter 9 24 rfl rfl (by decide +kernel) rfl 32 #[l2.val vals.length] (by kernel_rfl) _ _ (c32 l2 vals w2 hn2 g2'') ?_
  simp only [Act.put, List.setIfInBounds_toArray, List.set_cons_zero, List.set_cons_succ]
  rintro w3 ⟨hl2, B3⟩
  have hn2' := made_nil l2 vals.length w2
  generalize made l2 vals.length w2 = m2 at *
  have hS3 : w3.rangeAt w.heap.size 0 (u8s p.prop) ∧ w3.rangeAt (w.heap.size + 1) 0 (u8s p.chk) ∧ w3.rangeAt (w.heap.size + 1 + 1) 0 (u8s p.sig) :=
    ⟨rangeAt_below B3 (by omega) hS2.1, rangeAt_below B3 (by omega) hS2.2.1, rangeAt_below B3 (by omega) hS2.2.2⟩
  have B13 : Below w.heap.size w w3 := B12.trans (B3.mono (by omega))
  have hl1' := hl1.below B3 (Nat.le_refl _)
  refine ⟨hS3, ?_⟩
  refine one_val 10 25 rfl rfl (by decide +kernel) rfl _ _ (exec_build59 _ _ _ rfl p hp (m1.val cts.length) (m2.val vals.length) rfl rfl rfl rfl) hS3 ?_
  simp only [Act.put, List.setIfInBounds_toArray, List.set_cons_zero, List.set_cons_succ]
  have B4 : Below w3.heap.size w3 (w3.alloc (.cells (pcells p (m1.val cts.length) (m2.val vals.length)).toArray 59)) := (Below.refl _ _).alloc (Nat.le_refl _) _
  have hS4 : (w3.alloc (.cells (pcells p (m1.val cts.length) (m2.val vals.length)).toArray 59)).rangeAt w.heap.size 0 (u8s p.prop) ∧ (w3.alloc (.cells (pcells p (m1.val cts.length) (m2.val vals.length)).toArray 59)).rangeAt (w.heap.size + 1) 0 (u8s p.chk) ∧ (w3.alloc (.cells (pcells p (m1.val cts.length) (m2.val vals.length)).toArray 59)).rangeAt (w.heap.size + 1 + 1) 0 (u8s p.sig) :=
    ⟨World.rangeAt_alloc hS3.1 _, World.rangeAt_alloc hS3.2.1 _, World.rangeAt_alloc hS3.2.2 _⟩
  refine one_val 11 26 rfl rfl (by decide +kernel) rfl (.pointer (some ⟨w3.heap.size, 0, none⟩)) (w3.alloc (.cells (pcells p (m1.val cts.length) (m2.val vals.length)).toArray 59)) (by kernel_rfl) hS4 ?_
  simp only [Act.put, List.setIfInBounds_toArray, List.set_cons_zero, List.set_cons_succ]
  refine one_val 12 14 rfl rfl (by decide +kernel) rfl (.pointer (some ⟨w3.heap.size, 0, none⟩)) _ (by kernel_rfl) hS4 ?_
  simp only [Act.put, List.setIfInBounds_toArray, List.set_cons_zero, List.set_cons_succ]
  refine wpAnyH_done (by decide +kernel) ?_ _
  have hlen := hsame.len
  have HP : PendAt (w3.alloc (.cells (pcells p (m1.val cts.length) (m2.val vals.length)).toArray 59)) w3.heap.size p m1 m2 new vals :=
    ⟨by rw [hlen]; exact rangeAt_new _ _ _, by simp, hl1'.below B4 (Nat.le_refl _), hl2.below B4 (Nat.le_refl _)⟩
  have B5 : Below w.heap.size w (w3.alloc (.cells (pcells p (m1.val cts.length) (m2.val vals.length)).toArray 59)) := B13.trans (B4.mono B13.size)
  have HH : Hid (SameAll new cts ∧ m1.ao.isNone = l1.ao.isNone ∧ m2.ao.isNone = l2.ao.isNone) := ⟨hsame, hn1', hn2'⟩
  clear hS hS2 hS3 hS4 hn1' hn2' hlen hsame B4 hl1' hl2 hl1 g1 g2 g1' g2' g2''
  go_wp2
  go_ret
  exact ⟨_, m1, m2, new, rfl, HH.out.1, HH.out.2.1, HH.out.2.2, HP, B5⟩

end Go.Proofs.Qxb6604552a.Pend
