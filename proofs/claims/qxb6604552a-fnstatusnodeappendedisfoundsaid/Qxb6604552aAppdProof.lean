import Derived.Test.Qxb6604552aRows
import Derived.Test.Qxb6604552aAppdWalk
import Derived.Test.Qxb6604552aAppdOpen
namespace Go.Proofs.Qxb6604552a.Node
open Go.ChangeShapes Go.WideShapes Go.ChangeAt Go.RowKit Mid
attribute [local simp] length_u8s

theorem own : ownKnob Try.prog.godebug = none := by kernel_rfl
theorem laidOut : laidOutB Try.prog = true := by kernel_rfl
set_option maxRecDepth 100000 in
set_option maxHeartbeats 400000 in
theorem walk_long (ao : Option Addr) (n cap : Nat) (x : Row) (hx : x.Ok) (w : World) (hn : 1048576 < n) :
    Calls Try.prog 4 #[.slice ao n cap, .agg (cells x).toArray] w fun e w' => e = .returned (.bool true) ∧ Below w.heap.size w w' := by
  have B0 : Below w.heap.size w (w.alloc (.cells (cells x).toArray 42)) := (Below.refl _ _).alloc (Nat.le_refl _) _
  have X0 : (w.alloc (.cells (cells x).toArray 42)).rangeAt w.heap.size 0 (cells x) := rangeAt_new _ _ _
  have S0 : (w.alloc (.cells (cells x).toArray 42)).heap.size = w.heap.size + 1 := by simp
  go_enter Try.func4, Try.ntmps4
  go_wp2_with (with_reducible show wpList _ _ _ (⟨_, .load 42 (.tmp 3), _, _, _, _⟩ :: _) _ _; refine wpL_load42 rfl _ rfl w.heap.size 0 rfl x hx X0 ?_)
  refine (c13_long ao n cap x _ hn).mono ?_
  rintro e w1 ⟨rfl, C1⟩
  rw [S0] at C1
  have B1 : Below w.heap.size w w1 := B0.trans (C1.mono (by omega))
  clear B0 X0 S0 C1
  go_wp2
  go_ret
  exact ⟨rfl, B1⟩

set_option maxRecDepth 100000 in
set_option maxHeartbeats 400000 in
theorem walk_out (ao : Option Addr) (cap b off : Nat) (rows : List Row) (x : Row) (hok : ∀ r ∈ rows, r.Ok) (hx : x.Ok) (w : World)
    (hn : rows.length ≤ 1048576) (hbad : 65536 < rows.length ∨ 1048576 < x.addr.size) (hb : rows.length ≠ 0 → b < w.heap.size) (hrow : RowsOff w b off rows) (ha : rows.length ≠ 0 → ao = some ⟨b, off, none⟩) :
    Calls Try.prog 4 #[.slice ao rows.length cap, .agg (cells x).toArray] w fun e w' => e = .returned (.bool true) ∧ Below w.heap.size w w' := by
  have B0 : Below w.heap.size w (w.alloc (.cells (cells x).toArray 42)) := (Below.refl _ _).alloc (Nat.le_refl _) _
  have X0 : (w.alloc (.cells (cells x).toArray 42)).rangeAt w.heap.size 0 (cells x) := rangeAt_new _ _ _
  have S0 : (w.alloc (.cells (cells x).toArray 42)).heap.size = w.heap.size + 1 := by simp
  have R0 := rowsOff_below B0 hb hrow
  go_enter Try.func4, Try.ntmps4
  go_wp2_with (with_reducible show wpList _ _ _ (⟨_, .load 42 (.tmp 3), _, _, _, _⟩ :: _) _ _; refine wpL_load42 rfl _ rfl w.heap.size 0 rfl x hx X0 ?_)
  refine (c13 ao cap b off rows x hx hok _ (by omega) (fun h => by have := hb h; omega) R0 ha).mono ?_
  rintro e w1 ⟨⟨q, rfl⟩, C1⟩
  rw [S0] at C1
  have B1 : Below w.heap.size w w1 := B0.trans (C1.mono (by omega))
  have X1 := rangeAt_below C1 (by omega) X0
  clear B0 X0 S0 R0 C1
  have A1 := (parts_of hx X1).addr
  simp only [Nat.zero_add] at A1
  cases q
  · go_wp2
    go_ret
    exact ⟨rfl, B1⟩
  · by_cases hl : 65536 < rows.length
    · have hl' : (65536 : Int) < (rows.length : Int) := by omega
      go_wp2
      go_ret
      exact ⟨rfl, B1⟩
    · have hl' : (rows.length : Int) ≤ 65536 := by omega
      have hs : (1048576 : Int) < (x.addr.size : Int) := by omega
      go_wp2
      go_ret
      exact ⟨rfl, B1⟩

theorem walk (ao : Option Addr) (cap b off : Nat) (rows : List Row) (x : Row) (hok : ∀ r ∈ rows, r.Ok) (hx : x.Ok) (w : World)
    (hb : rows.length ≠ 0 → b < w.heap.size) (hrow : RowsOff w b off rows) (ha : rows.length ≠ 0 → ao = some ⟨b, off, none⟩) (hnil : ao = none → cap = 0) :
    Calls Try.prog 4 #[.slice ao rows.length cap, .agg (cells x).toArray] w fun e w' => e = .returned (.bool true) ∧ Below w.heap.size w w' := by
  by_cases h1 : 1048576 < rows.length
  · exact walk_long ao rows.length cap x hx w h1
  by_cases h2 : 65536 < rows.length ∨ 1048576 < x.addr.size
  · exact walk_out ao cap b off rows x hok hx w (by omega) h2 hb hrow ha
  obtain ⟨N1, ok1, r2, hL⟩ := looks_of rows x hok hx (by omega)
  exact walk_in ao cap b off rows x N1 ok1 r2 hL hok hx w (by omega) (by omega) hb hrow ha hnil

set_option maxRecDepth 100000 in
theorem lifted (os : Os) (started : os.Started) (H : Type) (enc : TypeId × Value → H) :
    ReturnsInHanded {} Try.checked os 4 .any (Rows.fnStatusNodeAppendedIsFoundSpec.pre6 enc Try.prog Try.f4 Rows.fnStatusNodeAppendedIsFoundRow.domain false) (Rows.fnStatusNodeAppendedIsFoundSpec.post enc Try.prog Try.f4 false true false false) := by
  refine returnsInHanded_of_change (C := Try.checked) own started (by kernel_rfl) Try.func4
    (ChangeSpec.witness6 (enc := enc) (C := Try.checked) false ⟨#[], #[.slice none 0 0, .agg z38.toArray], []⟩ 8 (by kernel_rfl) (by kernel_rfl) (by kernel_rfl) (by kernel_rfl)) ?_
  intro W base args ds gs before hval0 hW hcnd _
  have hval : ∀ (j : Nat) t v, Try.f4.params[j]? = some t → args[j]? = some v → Value.okWide Try.prog W .any base t v := hval0
  have hW' := hW
  obtain ⟨p, q, hA0, hV, rfl, hfz, hnd⟩ := hW
  have hA : DataW.TrodAll enc Try.prog W 0 (fun _ => true) true Try.f4.params.toList args.toList ds p := hA0
  rw [Try.params4] at hA hval
  obtain ⟨v0, vs0, d0, ds0, p0, q0, hargs, rfl, rfl, h0, r0⟩ := trodAll_cons hA
  obtain ⟨v1, vs1, d1, ds1, p1, q1, rfl, rfl, rfl, h1, r1⟩ := trodAll_cons r0
  obtain ⟨rfl, rfl, rfl⟩ := trodAll_nil r1
  obtain rfl : args = #[v0, v1] := by cases args; simp_all
  obtain ⟨rfl, rfl⟩ := trodVars_none hV
  obtain ⟨a0, len0, cap0, rfl⟩ := okWide_slice Try.underlying22 (hval 0 22 v0 rfl rfl)
  have k0 := h0
  have k1 := h1
  have lt0 : ∀ x ∈ p0, x.block < W.heap.size := by obtain ⟨m, hm⟩ := k0; exact DataW.trod_lt m _ _ _ hm
  have lt1 : ∀ x ∈ p1, x.block < W.heap.size := by obtain ⟨m, hm⟩ := k1; exact DataW.trod_lt m _ _ _ hm
  obtain ⟨rows, b, off, rfl, hok, hb, hrow, ha, hnil⟩ := rows_of h0
  obtain ⟨cs, rfl, _⟩ : ∃ cs, v1 = .agg cs ∧ cs.size = Try.prog.cellsOf 42 := by
    have := hval 1 42 v1 rfl rfl
    simp only [Value.okWide, Try.underlying42] at this
    obtain ⟨cs, h1, h2, _⟩ := this
    exact ⟨cs, h1, h2⟩
  obtain ⟨x, hx, rfl⟩ : ∃ x : Row, x.Ok ∧ cs = (cells x).toArray := by
    obtain ⟨m, hm⟩ := h1
    obtain ⟨x, hx, e⟩ := row_of hm
    exact ⟨x, hx, by rw [← e]; simp [Value.cells]⟩
  clear hA0 hval0
  refine (walk a0 cap0 b off rows x hok hx W hb hrow ha hnil).mono fun e W' ⟨he, bel⟩ => ?_
  subst he
  exact ⟨_, rfl, _, _, _, [], _, [], hW', trodAll_mk1 (shut_bool Try.underlying4 _), (trodAll_cons_mk (Below.trod laidOut (by kernel_rfl) (of_decide_eq_true (by kernel_rfl)) k0 bel lt0) (trodAll_cons_mk (Below.trod laidOut (by kernel_rfl) (of_decide_eq_true (by kernel_rfl)) k1 bel lt1) trodAll_mk0)), rfl, bel.frame _, fun h => by cases h⟩

theorem over : Rows.fnStatusNodeAppendedIsFoundRow.holds Try.pinned (OpenSpec.ofChange Rows.fnStatusNodeAppendedIsFoundSpec) :=
  OpenClaim.holds_of_wide 4 Try.f4 rfl rfl rfl rfl rfl rfl rfl ⟨rfl, rfl, rfl, rfl, rfl⟩ rfl rfl rfl rfl rfl (by kernel_rfl) Try.func4 (by kernel_rfl)
    (of_decide_eq_true (by kernel_rfl)) (by unfold Func.isWrapper; first | (rw [if_pos (by decide +kernel)]; kernel_rfl) | (rw [if_neg (by decide +kernel)]; exact ⟨rfl, rfl⟩))
    (fun os started H enc _ => lifted os started H enc)

theorem found_holds : Rows.FnStatusNodeAppendedIsFoundSaid :=
  over
#print axioms found_holds
end Go.Proofs.Qxb6604552a.Node
