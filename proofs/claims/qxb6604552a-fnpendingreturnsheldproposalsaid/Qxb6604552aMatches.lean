import Derived.Test.Qxb6604552aMatch
namespace Go.Proofs.Qxb6604552a.Pend
open Go.RowKit Mid
open Go.Proofs.Qxb6604552a.Node (wpL_load30 wpL_eql30 wpL_neq30 size23 size30 size5 guard30)
attribute [local simp] length_u8s

section
variable {ops : Array Oper} {rest : List Oper} {op : Oper} {a : Act} {w : World} {Q : Exit → Act → World → Prop} {C : World → Prop} {R : Act → Prop}

theorem wpL_load23 (hw : Region.wanted op (yielded ops a.tmps) = true) (x : Operand) (ho : op.op = .load 23 x)
    (b o : Nat) (hx : a.eval x = .pointer (some ⟨b, o, none⟩)) (xs : List UInt8) (hl : xs.length = 32) (hc : w.rangeAt b o (u8s xs))
    (h : wpList Try.prog ops Q rest (a.put op.dst (.agg (u8s xs).toArray)) w) : wpList Try.prog ops Q (op :: rest) a w :=
  wpL_load hw 23 x ho b o hx (u8s xs) _ hc Try.underlying23 rfl (by rw [size23]; simp [hl]) h

theorem exec_loadm {P : Program} {ty : TypeId} {x : Operand} (ho : op.op = .load ty x) (b o : Nat) (hx : a.eval x = .pointer (some ⟨b, o, none⟩)) (cs : List Value) (d : TypeDesc) (hc : w.rangeAt b o cs)
    (hu : P.underlying ty = some d) (hd : d.isRow = true) (hi : (P.info? ty).map (·.size) = some cs.length) : (execOp a.eval op).run P w = .ok (.value (.agg cs.toArray)) w := by
  unfold execOp
  simp only [ho, hx, Instr.loadAt, Instr.sureAddr, Sem.run_bind, Sem.run_pure, Result.andThen_ok, run_loadVar_mid w b o ty cs d hc hu hd hi]

theorem wpQ_val {P : Program} (d : Nat) (hw : Region.wanted op (yielded ops a.tmps) = true) (hd : op.dst = some d) (v : Value) (hrun : ∀ w', C w' → (execOp a.eval op).run P w' = .ok (.value v) w')
    (h : wpQuiet P ops C R rest (a.put (some d) v)) : wpQuiet P ops C R (op :: rest) a :=
  BigFrame.wpQuiet_want hw fun K hK => ⟨v, fun w' hw' => by unfold Oper.quietAt; rw [hrun w' hw']; exact ⟨rfl, rfl⟩, by rw [hd]; exact hK _ h⟩

theorem exec_neq30 (x y : Operand) (ho : op.op = .binOp .neq 30 x y 30) (xs : List UInt8) (hx : a.eval x = .agg (u8s xs).toArray) (hy : a.eval y = .agg (u8s xs).toArray) (lx : xs.length = 32) :
    (execOp a.eval op).run Try.prog w = .ok (.value (.bool false)) w := by
  unfold execOp
  have e : (binOp .neq 30 (.agg (u8s xs).toArray) (.agg (u8s xs).toArray)).run Try.prog w = .ok (.bool false) w := by
    rw [run_neq_struct]
    unfold u8s
    rw [run_equalIn_bytes w 9998 30 5 32 Try.underlying30 Try.underlying5 size5 xs xs lx lx]
    simp
  simp only [ho, hx, hy, Sem.run_bind, run_eqGuard_agg w .neq 30 x y _ _ guard30, Result.andThen_ok, e, Sem.run_pure]

theorem wpL_neq30s (hw : Region.wanted op (yielded ops a.tmps) = true) (x y : Operand) (ho : op.op = .binOp .neq 30 x y 30) (xs : List UInt8)
    (hx : a.eval x = .agg (u8s xs).toArray) (hy : a.eval y = .agg (u8s xs).toArray) (lx : xs.length = 32)
    (h : wpList Try.prog ops Q rest (a.put op.dst (.bool false)) w) : wpList Try.prog ops Q (op :: rest) a w :=
  wpL_run hw _ w (exec_neq30 x y ho xs hx hy lx) h
end

theorem drew_more {w1 : World} {n x q : Nat} : ∃ m, (w1.drewN (n + x)).drewN q = w1.drewN (n + m) := ⟨x + q, by rw [World.drewN_drewN, Nat.add_assoc]⟩

/-- matchesPending's four boxes. -/
def boxes (w : World) (p : Pd) (v1 v2 : Value) : World := (((w.alloc (.cells (pcells p v1 v2).toArray 59)).alloc (.cells (u8s p.prop).toArray 23)).alloc (.cells (u8s p.chk).toArray 23)).alloc (.cells (u8s p.sig).toArray 23)
theorem boxes_facts (w : World) (p : Pd) (v1 v2 : Value) : (boxes w p v1 v2).rangeAt w.heap.size 0 (pcells p v1 v2) ∧ (boxes w p v1 v2).rangeAt (w.heap.size + 1) 0 (u8s p.prop) ∧ (boxes w p v1 v2).rangeAt (w.heap.size + 1 + 1) 0 (u8s p.chk)
    ∧ (boxes w p v1 v2).rangeAt (w.heap.size + 1 + 1 + 1) 0 (u8s p.sig) ∧ Below w.heap.size w (boxes w p v1 v2) := by
  have r0 := World.rangeAt_alloc (World.rangeAt_alloc (World.rangeAt_alloc (rangeAt_new w (pcells p v1 v2) 59) (.cells (u8s p.prop).toArray 23)) (.cells (u8s p.chk).toArray 23)) (.cells (u8s p.sig).toArray 23)
  have r1 := World.rangeAt_alloc (World.rangeAt_alloc (rangeAt_new (w.alloc (.cells (pcells p v1 v2).toArray 59)) (u8s p.prop) 23) (.cells (u8s p.chk).toArray 23)) (.cells (u8s p.sig).toArray 23)
  have r2 := World.rangeAt_alloc (rangeAt_new ((w.alloc (.cells (pcells p v1 v2).toArray 59)).alloc (.cells (u8s p.prop).toArray 23)) (u8s p.chk) 23) (.cells (u8s p.sig).toArray 23)
  have r3 := rangeAt_new (((w.alloc (.cells (pcells p v1 v2).toArray 59)).alloc (.cells (u8s p.prop).toArray 23)).alloc (.cells (u8s p.chk).toArray 23)) (u8s p.sig) 23
  simp only [World.size_alloc] at r1 r2 r3
  exact ⟨r0, r1, r2, r3, (((((Below.refl _ _).alloc (Nat.le_refl _) _).alloc (by simp) _).alloc (by simp; omega) _).alloc (by simp; omega) _)⟩

set_option maxRecDepth 100000 in
set_option maxHeartbeats 2000000 in
theorem c21 (p : Pd) (hp : p.Ok) (l1 l2 k1 k2 : Loc) (cts new : List Ct) (vals : List (List UInt8)) (w : World) (hn1 : cts.length ≤ 65536) (hn2 : vals.length ≤ 65536)
    (hs : SameAll new cts) (z1 : k1.ao.isNone = l1.ao.isNone) (z2 : k2.ao.isNone = l2.ao.isNone) (a1 : CtsLie w l1 cts) (a2 : ValsLie w l2 vals) (g1 : CtsLie w k1 new) (g2 : ValsLie w k2 vals) :
    Calls Try.prog 21 #[.agg (pcells p (k1.val cts.length) (k2.val vals.length)).toArray, .agg (u8s p.prop).toArray, .int .u64 p.gen, .int .u64 p.ep, .agg (u8s p.chk).toArray, .agg (u8s p.sig).toArray, l1.val cts.length, l2.val vals.length] w
      fun e w' => e = .returned (.bool true) ∧ Below w.heap.size w w' := by
  obtain ⟨r0, r1, r2, r3, B1⟩ := boxes_facts w p (k1.val cts.length) (k2.val vals.length)
  have A1 := a1.below B1 (Nat.le_refl _)
  have A2 := a2.below B1 (Nat.le_refl _)
  have G1 := g1.below B1 (Nat.le_refl _)
  have G2 := g2.below B1 (Nat.le_refl _)
  have P0 := pparts_of hp r0
  have n55 := fun (w : World) (a : Option Addr) (n c : Nat) => Lib.run_eql_slice_nil (P := Try.prog) w 55 68 a n c 0 0 Try.underlying55
  have n45 := fun (w : World) (a : Option Addr) (n c : Nat) => Lib.run_eql_slice_nil (P := Try.prog) w 45 80 a n c 0 0 Try.underlying45
  have n33 := fun (w : World) (a : Option Addr) (n c : Nat) => Lib.run_eql_slice_nil (P := Try.prog) w 33 30 a n c 0 0 Try.underlying33
  have n46 := fun (w : World) (a : Option Addr) (n c : Nat) => Lib.run_eql_slice_nil (P := Try.prog) w 46 23 a n c 0 0 Try.underlying46
  obtain ⟨ao1, cp1, b1, off1⟩ := l1
  obtain ⟨ao2, cp2, b2, off2⟩ := l2
  obtain ⟨ao3, cp3, b3, off3⟩ := k1
  obtain ⟨ao4, cp4, b4, off4⟩ := k2
  simp only [Loc.val] at *
  go_enter Try.func21, Try.ntmps21
  go_upto_region 1 with fail
  unfold boxes at *
  generalize hw1 : (((w.alloc (.cells (pcells p (.slice ao3 cts.length cp3) (.slice ao4 vals.length cp4)).toArray 59)).alloc (.cells (u8s p.prop).toArray 23)).alloc (.cells (u8s p.chk).toArray 23)).alloc (.cells (u8s p.sig).toArray 23) = w1 at *
  clear hw1
  have c1 := P0.gen
  have c2 := P0.ep
  have c3 := P0.cts
  have c4 := P0.conf
  go_wp2_with (first
    | (with_reducible show wpList _ _ _ (⟨_, .load 30 (.tmp 19), _, _, _, _⟩ :: _) _ _; refine wpL_load30 rfl _ rfl w.heap.size 0 rfl p.prop hp.prop P0.prop ?_)
    | (with_reducible show wpList _ _ _ (⟨_, .load 23 (.tmp 9), _, _, _, _⟩ :: _) _ _; refine wpL_load23 rfl _ rfl (w.heap.size + 1) 0 rfl p.prop hp.prop r1 ?_)
    | (with_reducible show wpList _ _ _ (⟨_, .binOp .neq 30 (.tmp 20) _ _, _, _, _, _⟩ :: _) _ _; refine wpL_neq30s rfl _ _ rfl p.prop rfl rfl hp.prop ?_)
    | (with_reducible show wpList _ _ _ (⟨_, .load 30 (.tmp 38), _, _, _, _⟩ :: _) _ _; refine wpL_load30 rfl _ rfl w.heap.size 34 rfl p.chk hp.chk P0.chk ?_)
    | (with_reducible show wpList _ _ _ (⟨_, .load 23 (.tmp 12), _, _, _, _⟩ :: _) _ _; refine wpL_load23 rfl _ rfl (w.heap.size + 1 + 1) 0 rfl p.chk hp.chk r2 ?_)
    | (with_reducible show wpList _ _ _ (⟨_, .binOp .neq 30 (.tmp 39) _ _, _, _, _, _⟩ :: _) _ _; refine wpL_neq30s rfl _ _ rfl p.chk rfl rfl hp.chk ?_)
    | (with_reducible show wpList _ _ _ (⟨_, .load 30 (.tmp 44), _, _, _, _⟩ :: _) _ _; refine wpL_load30 rfl _ rfl w.heap.size 66 rfl p.sig hp.sig P0.sig ?_)
    | (with_reducible show wpList _ _ _ (⟨_, .load 23 (.tmp 13), _, _, _, _⟩ :: _) _ _; refine wpL_load23 rfl _ rfl (w.heap.size + 1 + 1 + 1) 0 rfl p.sig hp.sig r3 ?_)
    | (with_reducible show wpList _ _ _ (⟨_, .binOp .neq 30 (.tmp 45) _ _, _, _, _, _⟩ :: _) _ _; refine wpL_neq30s rfl _ _ rfl p.sig rfl rfl hp.sig ?_))
  go_loopw [17] (fun i wr => ∃ (k n : Nat), k ≤ cts.length ∧ i = .int .i64 k ∧ wr = w1.drewN n) (fun i _ => cts.length - (intOf i).toNat)
  case atStart => exact ⟨0, 0, Nat.zero_le _, rfl, rfl⟩
  case round =>
    obtain ⟨k, n, hk, rfl, rfl⟩ := hrel
    by_cases hlt : k < cts.length
    · have hlt' : k < new.length := by have := hs.len; omega
      obtain rfl : ao1 = some ⟨b1, off1, none⟩ := (A1.addr (by omega)).1
      obtain rfl : ao3 = some ⟨b3, off3, none⟩ := (G1.addr (by omega)).1
      have hsm := hs.each k hlt' hlt
      have x1 := A1.rows.row k hlt
      have x2 := A1.rows.buf k hlt
      have x3 := A1.rows.rek k hlt
      have y1 := G1.rows.row k hlt'
      have y2 := G1.rows.buf k hlt'
      simp only at x1 y1
      generalize cts[k] = c at hsm x1 x2 x3
      generalize new[k] = d at hsm y1 y2
      obtain ⟨s1, s2, s3⟩ := hsm
      have x4 := rangeAt_left x1
      have x5 := rangeAt_cell (rangeAt_right (off1 + k * 33 + 32) (by simp [x3]) x1)
      have y4 := rangeAt_left y1
      have y5 := rangeAt_cell (rangeAt_right (off3 + k * 33 + 32) (by rw [length_u8s, s1, x3]) y1)
      rw [s1] at y4
      have hcall := fun m => c35 d.buf c.buf (w1.drewN m) ⟨y2.addr, y2.row, y2.nil, y2.small⟩ ⟨x2.addr, x2.row, x2.nil, x2.small⟩ s2 s3
      have hltI : (k : Int) < (cts.length : Int) := by omega
      clear s1 s2 s3 x1 y1 x2 y2
      go_wp2
      refine wp_region_quiet_lit (by kernel_rfl) (by kernel_rfl) ?_
      iterate 6 (go_big_quiet_step (fail))
      refine wpQ_val 77 rfl rfl _ (fun w' hw' => exec_loadm rfl b3 (off3 + k * 33) rfl (u8s c.rek) _ (by obtain ⟨m, rfl⟩ := hw'; exact y4) Try.underlying30 rfl (by rw [size30, length_u8s, x3])) ?_
      simp only [Act.put, List.setIfInBounds_toArray, List.set_cons_zero, List.set_cons_succ]
      iterate 4 (go_big_quiet_step (fail))
      refine wpQ_val 82 rfl rfl _ (fun w' hw' => exec_loadm rfl b1 (off1 + k * 33) rfl (u8s c.rek) _ (by obtain ⟨m, rfl⟩ := hw'; exact x4) Try.underlying23 rfl (by rw [size23, length_u8s, x3])) ?_
      simp only [Act.put, List.setIfInBounds_toArray, List.set_cons_zero, List.set_cons_succ]
      refine wpQ_val 83 rfl rfl _ (fun w' _ => exec_neq30 _ _ rfl c.rek rfl rfl x3) ?_
      simp only [Act.put, List.setIfInBounds_toArray, List.set_cons_zero, List.set_cons_succ]
      iterate 13 (go_big_quiet_step (fail))
      go_big_quiet_step ((refine (hcall _).mono ?_; rintro e w'' ⟨rfl, q, rfl⟩; exact ⟨rfl, drew_more⟩))
      iterate 2 (go_big_quiet_step (fail))
      refine wpQuiet_nil ?_
      intro _ hw'
      obtain ⟨nq, hw''⟩ := hw'
      subst hw''
      clear hcall
      go_wp2
      go_roundw
      case rel => exact ⟨k + 1, _, by omega, by go_num, rfl⟩
      case measure => simp [intOf]; omega
    · clear A1 G1 hs a1 g1
      have E2 := A2.rows.row
      have F2 := G2.rows.row
      have L2 := A2.rows.len
      have U2 : vals.length ≠ 0 → ao2 = some ⟨b2, off2, none⟩ := fun h => (A2.addr h).1
      have V2 : vals.length ≠ 0 → ao4 = some ⟨b4, off4, none⟩ := fun h => (G2.addr h).1
      clear A2 G2 a2 g2
      go_wp2
      go_loopw [18] (fun i wr => ∃ (k n : Nat), k ≤ vals.length ∧ i = .int .i64 k ∧ wr = w1.drewN n) (fun i _ => vals.length - (intOf i).toNat)
      case atStart => exact ⟨0, _, Nat.zero_le _, rfl, rfl⟩
      case round =>
        obtain ⟨j, m, hj, rfl, rfl⟩ := hrel
        by_cases hjt : j < vals.length
        · obtain rfl := U2 (by omega)
          obtain rfl := V2 (by omega)
          have x1 := E2 j hjt
          have y1 := F2 j hjt
          have x3 := L2 j hjt
          generalize vals[j] = c at x1 y1 x3
          have hltI : (j : Int) < (vals.length : Int) := by omega
          clear E2 F2 L2 U2 V2
          go_wp2
          refine wp_region_quiet_lit (by kernel_rfl) (by kernel_rfl) ?_
          iterate 4 (go_big_quiet_step (fail))
          refine wpQ_val 124 rfl rfl _ (fun w' hw' => exec_loadm rfl b4 (off4 + j * 32) rfl (u8s c) _ (by obtain ⟨m, rfl⟩ := hw'; exact y1) Try.underlying30 rfl (by rw [size30, length_u8s, x3])) ?_
          simp only [Act.put, List.setIfInBounds_toArray, List.set_cons_zero, List.set_cons_succ]
          iterate 3 (go_big_quiet_step (fail))
          refine wpQ_val 128 rfl rfl _ (fun w' hw' => exec_loadm rfl b2 (off2 + j * 32) rfl (u8s c) _ (by obtain ⟨m, rfl⟩ := hw'; exact x1) Try.underlying23 rfl (by rw [size23, length_u8s, x3])) ?_
          simp only [Act.put, List.setIfInBounds_toArray, List.set_cons_zero, List.set_cons_succ]
          refine wpQ_val 129 rfl rfl _ (fun w' _ => exec_neq30 _ _ rfl c rfl rfl x3) ?_
          simp only [Act.put, List.setIfInBounds_toArray, List.set_cons_zero, List.set_cons_succ]
          refine wpQuiet_nil ?_
          intro _ hw'
          obtain ⟨nq, hw''⟩ := hw'
          subst hw''
          go_wp2
          go_roundw
          case rel => exact ⟨j + 1, _, by omega, by go_num, rfl⟩
          case measure => simp [intOf]; omega
        · go_wp2
          go_ret
          exact ⟨rfl, below_drewN B1 _⟩

end Go.Proofs.Qxb6604552a.Pend
