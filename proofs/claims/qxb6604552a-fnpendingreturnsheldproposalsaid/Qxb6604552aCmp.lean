import Derived.Test.Qxb6604552aVals
namespace Go.Proofs.Qxb6604552a.Pend
open Go.RowKit Mid
open Go.Proofs.Qxb6604552a.Node (size23 size30 size5)
attribute [local simp] length_u8s

def SomeBool (e : Ending) : Prop := ∃ q, e = .returned (.bool q)
theorem SomeBool.mk (q : Bool) : SomeBool (.returned (.bool q)) := ⟨q, rfl⟩
def SomeInt (e : Ending) : Prop := ∃ q, e = .returned (.int .i64 q)
theorem SomeInt.mk (q : Int) : SomeInt (.returned (.int .i64 q)) := ⟨q, rfl⟩

section
variable {P : Program} {ops : Array Oper} {op : Oper} {a : Act} {w : World} {S : World → Prop} {Q : Exit → Act → World → Prop}
/-- A call that answers something: what, the contract tells. -/
theorem one_enter' {md : Region.Mode} {fuel : Nat} {listed : Array Bool} (i d : Nat) (hi : ops[i]? = some op) (hd : op.dst = some d) (hr : Region.ready md ops listed = [i]) (hw : Region.wanted op (yielded ops a.tmps) = true)
    (f : FuncId) (args : Array Value) (hrun : (execOp a.eval op).run P w = .ok (.enter f args) w) (R : Value → World → Prop) (hc : Calls P f args w fun e w' => ∃ v, e = .returned v ∧ R v w')
    (h : ∀ v w', R v w' → S w' ∧ wpAnyH P md ops Q S fuel (listed.setIfInBounds i true) (a.put (some d) v) w') : wpAnyH P md ops Q S (fuel + 1) listed a w := by
  refine wpAnyH_all hr (by simp) ?_
  intro j hj
  obtain rfl := List.mem_singleton.1 hj
  unfold wpOp
  rw [hi]
  simp only [hw, if_true]
  left
  unfold Oper.wp
  rw [hrun, Oper.upon_enter]
  refine hc.mono ?_
  rintro e w' ⟨v, rfl, hR⟩
  have := h v w' hR
  rw [← hd] at this
  exact this
end

set_option maxRecDepth 100000 in
set_option maxHeartbeats 1000000 in
theorem c30 (x y : List UInt8) (hx : x.length = 32) (hy : y.length = 32) (w : World) :
    Calls Try.prog 30 #[.agg (u8s x).toArray, .agg (u8s y).toArray] w fun e w' => SomeInt e ∧ Below w.heap.size w w' := by
  have r0 := World.rangeAt_alloc (rangeAt_new w (u8s x) 23) (.cells (u8s y).toArray 23)
  have r1 := rangeAt_new (w.alloc (.cells (u8s x).toArray 23)) (u8s y) 23
  have B1 : Below w.heap.size w ((w.alloc (.cells (u8s x).toArray 23)).alloc (.cells (u8s y).toArray 23)) := ((Below.refl _ _).alloc (Nat.le_refl _) _).alloc (by simp) _
  simp only [World.size_alloc] at r1
  go_enter Try.func30, Try.ntmps30
  go_upto_region 1 with fail
  generalize hw1 : (w.alloc (.cells (u8s x).toArray 23)).alloc (.cells (u8s y).toArray 23) = w1 at *
  clear hw1
  go_wp2
  go_loopw [5] (fun i wr => ∃ (k n : Nat), k ≤ 32 ∧ i = .int .i64 k ∧ wr = w1.drewN n) (fun i _ => 32 - (intOf i).toNat)
  case atStart => exact ⟨0, 0, Nat.zero_le _, rfl, rfl⟩
  case round =>
    obtain ⟨k, n, hk, rfl, rfl⟩ := hrel
    by_cases hlt : k < 32
    · have c0 := byte_cell r0 (show k < x.length by omega)
      have c1 := byte_cell r1 (show k < y.length by omega)
      generalize (x[k]'(by omega)).toNat = u at c0
      generalize (y[k]'(by omega)).toNat = v at c1
      simp only [Nat.zero_add] at c0 c1
      have hlt' : (k : Int) < 32 := by omega
      by_cases h1 : u < v
      · have h1' : (u : Int) < (v : Int) := by omega
        go_wp2
        go_quiet (fail)
        go_wp2
        go_ret
        exact ⟨.mk _, below_drewN (below_drewN B1 _) _⟩
      · have h1' : ¬ (u : Int) < (v : Int) := by omega
        by_cases h2 : v < u
        · have h2' : (v : Int) < (u : Int) := by omega
          go_wp2
          go_quiet (fail)
          go_wp2
          go_quiet (fail)
          go_wp2
          go_ret
          exact ⟨.mk _, below_drewN (below_drewN (below_drewN B1 _) _) _⟩
        · have h2' : ¬ (v : Int) < (u : Int) := by omega
          go_wp2
          go_quiet (fail)
          go_wp2
          go_quiet (fail)
          go_wp2
          go_roundw
          case rel => exact ⟨k + 1, _, by omega, by go_num, rfl⟩
          case measure => simp [intOf]; omega
    · go_wp2
      go_ret
      exact ⟨.mk _, below_drewN B1 _⟩

theorem sz23 (w : World) : (sizeOf 23).run Try.prog w = .ok 32 w := by kernel_rfl

theorem exec_sub1 {op : Oper} {a : Act} {w : World} (x : Operand) (ho : op.op = .binOp .sub 3 x (.const (.int .i64 1)) 3) (k : Nat) (hk : k ≤ 65536) (hx : a.eval x = .int .i64 ((k + 1 : Nat) : Int)) :
    (execOp a.eval op).run Try.prog w = .ok (.value (.int .i64 (k : Int))) w := by
  unfold execOp
  have e : a.eval (.const (.int .i64 1)) = .int .i64 1 := rfl
  have h : IntKind.i64.wrap (((k + 1 : Nat) : Int) - 1) = (k : Int) := by
    rw [IntKind.wrap_i64]
    omega
  simp only [ho, hx, e]
  generalize hm : ((k + 1 : Nat) : Int) = m at h ⊢
  simp [go_sem, h]

theorem exec_geq0 {op : Oper} {a : Act} {w : World} (x : Operand) (ho : op.op = .binOp .geq 3 x (.const (.int .i64 0)) 3) (r : Int) (hx : a.eval x = .int .i64 r) :
    ∃ q, (execOp a.eval op).run Try.prog w = .ok (.value (.bool q)) w := by
  unfold execOp
  have e : a.eval (.const (.int .i64 0)) = .int .i64 0 := rfl
  simp only [ho, hx, e]
  simp [go_sem]

set_option maxRecDepth 100000 in
set_option maxHeartbeats 1000000 in
theorem c16 (l : Loc) (vals : List (List UInt8)) (w : World) (hn : vals.length ≤ 65536) (h : ValsLie w l vals) :
    Calls Try.prog 16 #[l.val vals.length] w fun e w' => SomeBool e ∧ Below w.heap.size w w' := by
  obtain ⟨ao, cap, b, off⟩ := l
  simp only [Loc.val]
  go_enter Try.func16, Try.ntmps16
  go_wp2
  go_loopw [3] (fun i wr => ∃ (k : Nat), k ≤ vals.length ∧ i = .int .i64 ((k + 1 : Nat) : Int) ∧ Below w.heap.size w wr) (fun i _ => vals.length + 1 - (intOf i).toNat)
  case atStart => exact ⟨0, Nat.zero_le _, rfl, Below.refl _ _⟩
  case round =>
    obtain ⟨k, hk, rfl, hB⟩ := hrel
    by_cases hlt : k + 1 < vals.length
    · obtain ⟨e, hb⟩ := h.addr (by omega)
      simp only at e hb
      subst e
      have x0 := rangeAt_below hB hb (h.rows.row k (by omega))
      have x1 := rangeAt_below hB hb (h.rows.row (k + 1) hlt)
      have l0 := h.rows.len k (by omega)
      have l1 := h.rows.len (k + 1) hlt
      simp only at x0 x1
      generalize (vals[k]'(by omega)) = u at x0 l0
      generalize vals[k + 1] = v at x1 l1
      have hltI : ((k + 1 : Nat) : Int) < (vals.length : Int) := by omega
      go_wp2
      refine wp_region_held (S := fun w' => w'.rangeAt b (off + k * 32) (u8s u) ∧ w'.rangeAt b (off + (k + 1) * 32) (u8s v)) (by kernel_rfl) ?_
      have hS : wr.drew.rangeAt b (off + k * 32) (u8s u) ∧ wr.drew.rangeAt b (off + (k + 1) * 32) (u8s v) := ⟨x0, x1⟩
      refine take_at 0 10 rfl rfl (by decide +kernel) (by decide +kernel) (by decide +kernel) (fun _ _ _ h => h) (take_val rfl (fun _ _ => rfl)) hS ?_
      simp only [Act.put, List.setIfInBounds_toArray, List.set_cons_zero, List.set_cons_succ]
      refine take_at 1 11 rfl rfl (by decide +kernel) (by decide +kernel) (by decide +kernel) (fun _ _ _ h => h) (take_val rfl (fun _ _ => rfl)) hS ?_
      simp only [Act.put, List.setIfInBounds_toArray, List.set_cons_zero, List.set_cons_succ]
      refine take_at 2 12 rfl rfl (by decide +kernel) (by decide +kernel) (by decide +kernel) (fun _ _ _ h => h) (take_val rfl (fun _ _ => exec_sub1 _ rfl k (by omega) rfl)) hS ?_
      simp only [Act.put, List.setIfInBounds_toArray, List.set_cons_zero, List.set_cons_succ]
      refine take_at 3 13 rfl rfl (by decide +kernel) (by decide +kernel) (by decide +kernel) (fun _ _ _ h => h) (take_val rfl (fun w _ => exec_index rfl b off vals.length cap k 32 rfl rfl (by omega) Try.underlying46 (sz23 w))) hS ?_
      simp only [Act.put, List.setIfInBounds_toArray, List.set_cons_zero, List.set_cons_succ]
      refine take_at 4 14 rfl rfl (by decide +kernel) (by decide +kernel) (by decide +kernel) (fun _ _ _ h => h) (yieldsIf_load_mid rfl 23 _ rfl b (off + k * 32) rfl (u8s u) _ (fun _ h => h.1) Try.underlying23 rfl (by rw [size23]; simp [l0])) hS ?_
      simp only [Act.put, List.setIfInBounds_toArray, List.set_cons_zero, List.set_cons_succ]
      refine take_at 5 15 rfl rfl (by decide +kernel) (by decide +kernel) (by decide +kernel) (fun _ _ _ h => h) (take_val rfl (fun _ _ => rfl)) hS ?_
      simp only [Act.put, List.setIfInBounds_toArray, List.set_cons_zero, List.set_cons_succ]
      refine take_at 6 16 rfl rfl (by decide +kernel) (by decide +kernel) (by decide +kernel) (fun _ _ _ h => h) (take_val rfl (fun _ _ => rfl)) hS ?_
      simp only [Act.put, List.setIfInBounds_toArray, List.set_cons_zero, List.set_cons_succ]
      refine take_at 7 17 rfl rfl (by decide +kernel) (by decide +kernel) (by decide +kernel) (fun _ _ _ h => h) (take_val rfl (fun w _ => exec_index rfl b off vals.length cap (k + 1) 32 rfl rfl hlt Try.underlying46 (sz23 w))) hS ?_
      simp only [Act.put, List.setIfInBounds_toArray, List.set_cons_zero, List.set_cons_succ]
      refine take_at 8 18 rfl rfl (by decide +kernel) (by decide +kernel) (by decide +kernel) (fun _ _ _ h => h) (yieldsIf_load_mid rfl 23 _ rfl b (off + (k + 1) * 32) rfl (u8s v) _ (fun _ h => h.2) Try.underlying23 rfl (by rw [size23]; simp [l1])) hS ?_
      simp only [Act.put, List.setIfInBounds_toArray, List.set_cons_zero, List.set_cons_succ]
      refine one_enter' 9 19 rfl rfl (by decide +kernel) rfl 30 #[.agg (u8s u).toArray, .agg (u8s v).toArray] (by kernel_rfl) (fun x w' => ∃ r, x = .int .i64 r ∧ Below wr.drew.heap.size wr.drew w') ((c30 u v l0 l1 wr.drew).mono ?_) ?_
      · rintro e w' ⟨⟨r, rfl⟩, hb'⟩
        exact ⟨_, rfl, r, rfl, hb'⟩
      rintro x w2 ⟨r, rfl, b2⟩
      simp only [Act.put, List.setIfInBounds_toArray, List.set_cons_zero, List.set_cons_succ]
      have hbw : b < wr.drew.heap.size := Nat.lt_of_lt_of_le hb hB.size
      have hS2 : w2.rangeAt b (off + k * 32) (u8s u) ∧ w2.rangeAt b (off + (k + 1) * 32) (u8s v) := ⟨rangeAt_below b2 hbw hS.1, rangeAt_below b2 hbw hS.2⟩
      have B2 : Below w.heap.size w w2 := hB.drew.trans (b2.mono hB.size)
      refine ⟨hS2, ?_⟩
      have hgq : ∃ q, (execOp _ _).run Try.prog w2 = .ok (.value (.bool q)) w2 := exec_geq0 (op := ⟨some 20, .binOp .geq 3 (.tmp 19) (.const (.int .i64 0)) 3, 4, "laws_pkg_ledger_b1.go-142", #[⟨9, .data⟩], none⟩) (.tmp 19) rfl r (a := ⟨#[undef, undef, undef, undef, undef, undef, undef, undef, undef, undef, undef, undef, undef, undef, undef, undef, undef, undef, undef, .int .i64 r], []⟩) rfl
      obtain ⟨q, hq⟩ := hgq
      refine one_val 10 20 rfl rfl (by decide +kernel) rfl (.bool q) _ hq hS2 ?_
      simp only [Act.put, List.setIfInBounds_toArray, List.set_cons_zero, List.set_cons_succ]
      refine wpAnyH_done (by decide +kernel) ?_ _
      clear hS hS2 hq b2 x0 x1 h
      cases q
      · go_wp2
        go_roundw
        case rel => exact ⟨k + 1, by omega, by go_num, B2⟩
        case measure => simp [intOf]; omega
      · go_wp2
        go_ret
        exact ⟨.mk _, B2⟩
    · go_wp2
      go_ret
      exact ⟨.mk _, hB⟩

end Go.Proofs.Qxb6604552a.Pend
