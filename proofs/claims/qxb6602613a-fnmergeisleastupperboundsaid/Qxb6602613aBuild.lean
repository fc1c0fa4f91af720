/-
  zzBuild: the map of two lists.
-/
import Derived.Test.Qxb6602613aUnion2
namespace Go.Proofs.Qxb6602613a.Ver
open Go.RowKit
open Go.Proofs.Qxb6602613a.Mid

/-- Where a slice lies. -/
structure Loc where
  ao : Option Addr
  cap : Nat
  b : Nat
  off : Nat
def Loc.val (l : Loc) (n : Nat) : Value := .slice l.ao n l.cap

structure KeysLie (B : Nat) (w : World) (l : Loc) (ks : List (List UInt8)) : Prop where
  addr : ks.length ≠ 0 → l.ao = some ⟨l.b, l.off, none⟩ ∧ l.b < B
  row : ∀ i (h : i < ks.length), w.rangeAt l.b (l.off + i * 12) (u8s ks[i])
  len : ∀ i (h : i < ks.length), ks[i].length = 12
  nil : l.ao = none → l.cap = 0
structure NumsLie (B : Nat) (w : World) (l : Loc) (vs : List Int) : Prop where
  addr : vs.length ≠ 0 → l.ao = some ⟨l.b, l.off, none⟩ ∧ l.b < B
  row : ∀ i (h : i < vs.length), w.cell? ⟨l.b, l.off + i, none⟩ = some (.int .u64 vs[i])
  wf : ∀ i (h : i < vs.length), (Lit.int .u64 vs[i]).wf = true
  nil : l.ao = none → l.cap = 0

theorem KeysLie.below {B B' : Nat} {w w' : World} {l : Loc} {ks : List (List UInt8)} (h : KeysLie B w l ks) (hb : Below B' w w') (hB : B ≤ B') : KeysLie B w' l ks :=
  ⟨h.addr, fun i hi => rangeAt_below hb (Nat.lt_of_lt_of_le (h.addr (by omega)).2 hB) (h.row i hi), h.len, h.nil⟩
theorem KeysLie.mono {B B' : Nat} {w : World} {l : Loc} {ks : List (List UInt8)} (h : KeysLie B w l ks) (hB : B ≤ B') : KeysLie B' w l ks :=
  ⟨fun hn => ⟨(h.addr hn).1, Nat.lt_of_lt_of_le (h.addr hn).2 hB⟩, h.row, h.len, h.nil⟩
theorem NumsLie.below {B B' : Nat} {w w' : World} {l : Loc} {vs : List Int} (h : NumsLie B w l vs) (hb : Below B' w w') (hB : B ≤ B') : NumsLie B w' l vs :=
  ⟨h.addr, fun i hi => by rw [hb.cell (by exact Nat.lt_of_lt_of_le (h.addr (by omega)).2 hB)]; exact h.row i hi, h.wf, h.nil⟩

/-- The map of the first k pairs. -/
def built (ks : List (List UInt8)) (vs : List Int) (k : Nat) : Fn := ((ks.zip vs).take k).foldl (fun f p => f.set p.1 p.2) nil0
theorem built_succ (ks : List (List UInt8)) (vs : List Int) (k : Nat) (h1 : k < ks.length) (h2 : k < vs.length) : built ks vs (k + 1) = (built ks vs k).set ks[k] vs[k] := by
  unfold built
  rw [List.take_succ_eq_append_getElem (by simp; omega), List.foldl_append]
  simp

section
variable {P : Program} {ops : Array Oper} {op : Oper} {a : Act} {w : World} {S : World → Prop} {Q : Exit → Act → World → Prop}
/-- The one operation that may come up: a store into a map. -/
theorem one_mapUpdate {md : Region.Mode} {fuel : Nat} {listed : Array Bool} (i : Nat) (hi : ops[i]? = some op) (hd : op.dst = none) (hr : Region.ready md ops listed = [i]) (hw : Region.wanted op (yielded ops a.tmps) = true)
    (t : TypeId) (m x v : Operand) (ho : op.op = .mapUpdate t m x v) (mv key val : Value) (hm : a.eval m = mv) (hx : a.eval x = key) (hv : a.eval v = val) (w' : World) (hrun : (Instr.mapUpdate t mv key val).run P w = .ok () w')
    (hS : S w') (h : wpAnyH P md ops Q S fuel (listed.setIfInBounds i true) a w') : wpAnyH P md ops Q S (fuel + 1) listed a w := by
  refine wpAnyH_all hr (by simp) ?_
  intro j hj
  obtain rfl := List.mem_singleton.1 hj
  unfold wpOp
  rw [hi]
  simp only [hw, if_true]
  left
  unfold Oper.wp
  simp [execOp, ho, hm, hx, hv, hrun, Result.andThen]
  unfold Oper.upon
  rw [hd]
  exact ⟨hS, by simpa [Act.put] using h⟩
end

theorem sz42 (w : World) : (sizeOf 42).run Try.prog w = .ok 12 w := by kernel_rfl
theorem sz41 (w : World) : (sizeOf 41).run Try.prog w = .ok 1 w := by kernel_rfl

set_option maxRecDepth 100000 in
set_option maxHeartbeats 400000 in
theorem c10_nil (v : Value) (w : World) : Calls Try.prog 10 #[.slice none 0 0, v] w fun e w' => e = .returned (.map none) ∧ w = w' := by
  have hnil := fun (w : World) (a : Option Addr) (n c : Nat) => Lib.run_eql_slice_nil (P := Try.prog) w 22 42 a n c 0 0 Try.underlying22
  go_enter Try.func10, Try.ntmps10
  go_wp2
  go_ret
  exact ⟨rfl, rfl⟩

set_option maxRecDepth 100000 in
set_option maxHeartbeats 2000000 in
theorem c10_made (A : Addr) (c b off : Nat) (ao2 : Option Addr) (c2 b2 off2 : Nat) (ks : List (List UInt8)) (vs : List Int) (B : Nat) (w : World) (hB : B ≤ w.heap.size) (hn : ks.length = vs.length) (hm : ks.length ≤ 131072)
    (h1 : KeysLie B w ⟨some A, c, b, off⟩ ks) (h2 : NumsLie B w ⟨ao2, c2, b2, off2⟩ vs) :
    Calls Try.prog 10 #[.slice (some A) ks.length c, .slice ao2 vs.length c2] w fun e w' => e = .returned (.map (some w.heap.size)) ∧ (∃ D, Own w' w.heap.size ks.length D ∧ view D = built ks vs ks.length ∧ Below w.heap.size w w') := by
  have hnil := fun (w : World) (a : Option Addr) (n c : Nat) => Lib.run_eql_slice_nil (P := Try.prog) w 22 42 a n c 0 0 Try.underlying22
  have hmm := fun (n : Int) (w : World) => run_makeMap_some 25 44 41 n .i64 w Try.underlying25
  have o0 : Own (w.alloc (.map #[] 0)) w.heap.size 0 (.map []) := World.ownsMap_made _ _ _ _
  go_enter Try.func10, Try.ntmps10
  go_wp2
  go_loopw [6] (fun i wr => ∃ (k : Nat) (D : DataW Unit), k ≤ ks.length ∧ i = .int .i64 k ∧ Own wr w.heap.size k D ∧ view D = built ks vs k ∧ Below w.heap.size w wr) (fun i _ => ks.length - (intOf i).toNat)
  case atStart => exact ⟨0, _, Nat.zero_le _, rfl, o0, by rw [view_empty]; rfl, (Below.refl _ _).alloc (Nat.le_refl _) _⟩
  case round =>
    clear o0
    obtain ⟨k, D, hk, rfl, hown, hD, hnx⟩ := hrel
    by_cases hlt : k < ks.length
    · have hlt2 : k < vs.length := by omega
      obtain ⟨e1, hb1⟩ := h1.addr (by omega)
      obtain ⟨e2, hb2⟩ := h2.addr (by omega)
      simp only at e1 e2 hb1 hb2
      cases e1
      subst e2
      have hR := rangeAt_below hnx (Nat.lt_of_lt_of_le hb1 hB) (h1.row k hlt)
      have hL := h1.len k hlt
      have hC := h2.row k hlt2
      have hW := h2.wf k hlt2
      rw [← hnx.cell (by exact Nat.lt_of_lt_of_le hb2 hB)] at hC
      simp only at hR hC
      have hS0 := hnx.size
      have hbs := built_succ ks vs k hlt hlt2
      generalize ks[k] = xs at *
      generalize vs[k] = a at *
      go_upto_region 7 with fail
      refine wp_region_held (S := fun w' => w'.rangeAt b (off + k * 12) (u8s xs) ∧ w'.cell? ⟨b2, off2 + k, none⟩ = some (.int .u64 a)) (by kernel_rfl) ?_
      have hS : wr.drew.rangeAt b (off + k * 12) (u8s xs) ∧ wr.drew.cell? ⟨b2, off2 + k, none⟩ = some (.int .u64 a) := ⟨hR, hC⟩
      refine take_at 0 18 rfl rfl (by decide +kernel) (by decide +kernel) (by decide +kernel) (fun _ _ _ h => h) (take_val rfl (fun _ _ => rfl)) hS ?_
      simp only [Act.put, List.setIfInBounds_toArray, List.set_cons_zero, List.set_cons_succ]
      refine take_at 1 19 rfl rfl (by decide +kernel) (by decide +kernel) (by decide +kernel) (fun _ _ _ h => h) (take_val rfl (fun _ _ => rfl)) hS ?_
      simp only [Act.put, List.setIfInBounds_toArray, List.set_cons_zero, List.set_cons_succ]
      refine take_at 2 20 rfl rfl (by decide +kernel) (by decide +kernel) (by decide +kernel) (fun _ _ _ h => h) (take_val rfl (fun _ _ => rfl)) hS ?_
      simp only [Act.put, List.setIfInBounds_toArray, List.set_cons_zero, List.set_cons_succ]
      refine take_at 3 21 rfl rfl (by decide +kernel) (by decide +kernel) (by decide +kernel) (fun _ _ _ h => h) (take_val rfl (fun w _ => exec_index rfl b off ks.length c k 12 rfl rfl hlt Try.underlying22 (sz42 w))) hS ?_
      simp only [Act.put, List.setIfInBounds_toArray, List.set_cons_zero, List.set_cons_succ]
      refine take_at 4 22 rfl rfl (by decide +kernel) (by decide +kernel) (by decide +kernel) (fun _ _ _ h => h) (yieldsIf_load_mid rfl 42 _ rfl b (off + k * 12) rfl (u8s xs) _ (fun _ h => h.1) Try.underlying42 rfl (by rw [size42, length_u8s, hL])) hS ?_
      simp only [Act.put, List.setIfInBounds_toArray, List.set_cons_zero, List.set_cons_succ]
      refine take_at 6 24 rfl rfl (by decide +kernel) (by decide +kernel) (by decide +kernel) (fun _ _ _ h => h) (take_val rfl (fun _ _ => rfl)) hS ?_
      simp only [Act.put, List.setIfInBounds_toArray, List.set_cons_zero, List.set_cons_succ]
      refine take_at 7 25 rfl rfl (by decide +kernel) (by decide +kernel) (by decide +kernel) (fun _ _ _ h => h) (take_val rfl (fun _ _ => rfl)) hS ?_
      simp only [Act.put, List.setIfInBounds_toArray, List.set_cons_zero, List.set_cons_succ]
      refine take_at 8 26 rfl rfl (by decide +kernel) (by decide +kernel) (by decide +kernel) (fun _ _ _ h => h) (take_val rfl (fun w _ => exec_index rfl b2 off2 vs.length c2 k 1 rfl rfl hlt2 Try.underlying23 (sz41 w))) hS ?_
      simp only [Act.put, List.setIfInBounds_toArray, List.set_cons_zero, List.set_cons_succ]
      rw [Nat.mul_one]
      refine take_at 9 27 rfl rfl (by decide +kernel) (by decide +kernel) (by decide +kernel) (fun _ _ _ h => h) (take_val rfl (fun w h => exec_load1 rfl b2 (off2 + k) (.int .u64 a) _ rfl h.2 Try.underlying41 rfl)) hS ?_
      simp only [Act.put, List.setIfInBounds_toArray, List.set_cons_zero, List.set_cons_succ]
      refine one_enter 5 23 rfl rfl (by decide +kernel) rfl 25 #[kv xs] (by kernel_rfl) _ _ (c25 xs hL wr.drew) ?_
      simp only [Act.put, List.setIfInBounds_toArray, List.set_cons_zero, List.set_cons_succ]
      intro w2 hb2'
      have hb2s : wr.heap.size ≤ w2.heap.size := hb2'.size
      have hnx2 : Below w.heap.size w w2 := hnx.trans (⟨hb2'.os, hb2'.tape, hb2'.output, hb2'.size, fun j hj => hb2'.block j (Nat.lt_of_lt_of_le hj hS0)⟩)
      have hown2 : Own w2 w.heap.size k D := World.ownsMap.kept (w := wr.drew) hown (grown_of_below hb2') (by simp)
      have hS2 : w2.rangeAt b (off + k * 12) (u8s xs) ∧ w2.cell? ⟨b2, off2 + k, none⟩ = some (.int .u64 a) :=
        ⟨rangeAt_below hb2' (Nat.lt_of_lt_of_le hb1 (Nat.le_trans hB hS0)) hS.1, by rw [hb2'.cell (by exact Nat.lt_of_lt_of_le hb2 (Nat.le_trans hB hS0))]; exact hS.2⟩
      obtain ⟨w3, hrun, hown3, hg3⟩ := World.ownsMap.update hown2 K44 Try.underlying25 (by unfold maxLen; omega) (key44 xs hL) (plainElem_int Try.underlying41 hW)
      have hnx3 : Below w.heap.size w w3 := hnx2.grown hg3 hnx2.size (fun j hj => by cases hj; exact Nat.le_refl _)
      have hV := view_put hown2 xs hL a
      refine ⟨hS2, ?_⟩
      refine one_mapUpdate 10 rfl rfl (by decide +kernel) rfl 25 _ _ _ rfl _ _ _ rfl rfl rfl w3 hrun ?_ ?_
      · refine ⟨fun j v hv => ?_, ?_⟩
        · rw [hg3.cell (hS2.1 j v hv) (fun h => by have := Option.some.inj h; simp only at this; omega)]
        · exact hg3.cell hS2.2 (fun h => by have := Option.some.inj h; simp only at this; omega)
      refine wpAnyH_done (by decide +kernel) ?_ _
      clear hS hS2 hrun hb2' hR hC
      go_wp2
      go_roundw
      case rel => exact ⟨k + 1, _, by omega, by go_num, hown3, by rw [hV, hD, hbs], hnx3⟩
      case measure => simp [intOf]; omega
    · obtain rfl : k = ks.length := by omega
      go_wp2
      go_ret
      exact ⟨rfl, D, hown, hD, hnx⟩

end Go.Proofs.Qxb6602613a.Ver
