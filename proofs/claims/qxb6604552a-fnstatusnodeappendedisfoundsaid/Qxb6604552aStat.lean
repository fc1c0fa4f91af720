import Derived.Test.Qxb6604552aFind
namespace Go.Proofs.Qxb6604552a.Node
open Go.RowKit Mid
attribute [local simp] length_u8s

def zSt : List Value := [.int .u64 0, .pointer none] ++ List.replicate 32 (.int .u8 0) ++ [.bool false, .pointer none, .slice none 0 0]
def stat (v : Value) : List Value := zSt ++ [v]
theorem zero35 (w : World) : (zeroValue 35).run Try.prog w = .ok (.agg (stat (.slice none 0 0)).toArray) w := by kernel_rfl
theorem length_zSt : zSt.length = 37 := by kernel_rfl
theorem length_stat (v : Value) : (stat v).length = 38 := by simp [stat, length_zSt]
theorem size35 : (Try.prog.info? 35).map (·.size) = some 38 := by kernel_rfl
theorem one_stat {v : Value} (h : v.oneCell' = true) : ∀ x ∈ stat v, x.oneCell' = true := by
  intro x hx
  simp only [stat, zSt, List.mem_append, List.mem_cons, List.mem_replicate, List.not_mem_nil, or_false] at hx
  rcases hx with ((((rfl | rfl) | ⟨_, rfl⟩) | rfl | rfl | rfl) | rfl) <;> first | rfl | exact h
theorem one_z38 : ∀ x ∈ z38, x.oneCell' = true := by
  intro x hx
  simp only [z38, List.mem_append, List.mem_cons, List.mem_replicate, List.not_mem_nil, or_false] at hx
  rcases hx with ((((⟨_, rfl⟩ | rfl) | ⟨_, rfl⟩) | rfl | rfl) | ⟨_, rfl⟩) <;> rfl

theorem build35 (w : World) (v : Value) (hv : v.cells = #[v]) : (Instr.build 35 #[(5, v)]).run Try.prog w = .ok (.agg (stat v).toArray) w := by
  refine build_run 35 _ _ _ #[(0, 1), (1, 1), (2, 33), (35, 1), (36, 1), (37, 1)] _ (zero35 w) Try.underlying35 (by kernel_rfl) ?_
  show Instr.fill _ (stat (.slice none 0 0)).toArray _ = _
  unfold stat
  rw [fill_next _ zSt [v] [.slice none 0 0] 5 v [] (by simp [length_zSt]) hv (by simp), Instr.fill]
  simp

theorem build38_zero (w : World) : (Instr.build 38 #[]).run Try.prog w = .ok (.agg z38.toArray) w :=
  build_run 38 _ _ _ #[(0, 32), (32, 1), (33, 32), (65, 33), (98, 1), (99, 32)] _ (zero38 w) Try.underlying38 (by kernel_rfl) rfl

theorem rowsAt_below {B b : Nat} {w w' : World} {rows : List Row} (hb : Below B w w') (hB : b < B) (h : RowsAt w b rows) : RowsAt w' b rows := fun i hi => rangeAt_below hb hB (h i hi)

/-- The world behind Node's three boxes. -/
def boxed (w : World) (v : Value) (id : List UInt8) : World := ((w.alloc (.cells (stat v).toArray 35)).alloc (.cells (u8s id).toArray 30)).alloc (.cells z38.toArray 38)
theorem boxed_below (w : World) (v : Value) (id : List UInt8) : Below w.heap.size w (boxed w v id) := (((Below.refl _ _).alloc (Nat.le_refl _) _).alloc (by simp) _).alloc (by simp; omega) _
theorem boxed_size (w : World) (v : Value) (id : List UInt8) : (boxed w v id).heap.size = w.heap.size + 3 := by simp [boxed]
theorem boxed_stat (w : World) (v : Value) (id : List UInt8) : (boxed w v id).cell? ⟨w.heap.size, 37, none⟩ = some v := by
  have h : (w.alloc (.cells (stat v).toArray 35)).rangeAt w.heap.size 0 (stat v) := rangeAt_new _ _ _
  have h2 := rangeAt_right 37 (by simp [length_zSt]) (World.rangeAt_alloc (World.rangeAt_alloc h (.cells (u8s id).toArray 30)) (.cells z38.toArray 38))
  exact rangeAt_cell h2
theorem boxed_id (w : World) (v : Value) (id : List UInt8) : (boxed w v id).rangeAt (w.heap.size + 1) 0 (u8s id) := by
  have h := rangeAt_new (w.alloc (.cells (stat v).toArray 35)) (u8s id) 30
  simp only [World.size_alloc] at h
  exact World.rangeAt_alloc h _
theorem boxed_there (w : World) (v : Value) (id : List UInt8) : (boxed w v id).there (w.heap.size + 2) 0 131 := by
  have h := there_new ((w.alloc (.cells (stat v).toArray 35)).alloc (.cells (u8s id).toArray 30)) z38.toArray 38
  simpa [boxed, length_z38] using h

set_option maxRecDepth 100000 in
set_option maxHeartbeats 400000 in
theorem c11_none (b cap : Nat) (rows : List Row) (hok : ∀ r ∈ rows, r.Ok) (id : List UInt8) (hid : id.length = 32) (w : World) (hn : rows.length ≤ 70000)
    (hb : b < w.heap.size) (hrow : RowsAt w b rows) (ao : Option Addr) (ha : rows.length ≠ 0 → ao = some ⟨b, 0, none⟩) (hno : ∀ j (hj : j < rows.length), (rows[j].id == id) = false) :
    Calls Try.prog 11 #[.agg (stat (.slice ao rows.length cap)).toArray, .agg (u8s id).toArray] w fun e w' => e = .returned (.tuple #[.agg z38.toArray, .bool false]) ∧ Below w.heap.size w w' := by
  have hz := zero38
  have q1 := boxed_stat w (.slice ao rows.length cap) id
  have q2 := boxed_id w (.slice ao rows.length cap) id
  have q3 := boxed_there w (.slice ao rows.length cap) id
  have q4 := boxed_below w (.slice ao rows.length cap) id
  have q5 := boxed_size w (.slice ao rows.length cap) id
  have q6 := rowsAt_below q4 hb hrow
  have hcall := c28 b cap rows hok (w.heap.size + 1) id hid (boxed w (.slice ao rows.length cap) id) hn (by omega) (by omega) q6 q2 ao ha
  rw [idx_none hno, q5] at hcall
  clear hno
  unfold boxed at hcall q1 q3 q4
  go_enter Try.func11, Try.ntmps11
  go_wp2_with fail
  refine hcall.mono ?_
  rintro e w2 ⟨rfl, hb2⟩
  have q7 := there_below hb2 (by omega) q3
  have q8 := q4.trans (hb2.mono (by omega))
  clear q1 q2 q3 q4 q5 q6 hcall hb2
  go_wp2_with (first
    | (with_reducible show wpList _ _ _ (⟨_, .build 38 _, _, _, _, _⟩ :: _) _ _; refine wpL_build rfl 38 [] rfl [] rfl _ (build38_zero _) ?_)
    | (with_reducible show wpList _ _ _ (⟨_, .store 38 _ _, _, _, _, _⟩ :: _) _ _; refine wpL_store rfl 38 _ _ rfl (w.heap.size + 2) 0 z38 rfl rfl (by rw [length_z38]; exact q7) (by rw [size38, length_z38]) one_z38 ?_))
  refine bodyPost_ret (v := .tuple #[.agg z38.toArray, .bool false]) ?_ rfl ⟨rfl, ?_⟩
  · exact results_mid2 Try.results11 _ _ (w.heap.size + 2) 0 z38 _ rfl (World.rangeAt_setCells_same _ _ _ _ (by rw [length_z38]; exact q7)) Try.underlying38 rfl (by rw [size38, length_z38])
  · exact below_setCells _ (by omega) _ _ _ q8

set_option maxRecDepth 100000 in
set_option maxHeartbeats 400000 in
theorem c11_hit (b cap : Nat) (rows : List Row) (hok : ∀ r ∈ rows, r.Ok) (id : List UInt8) (hid : id.length = 32) (w : World) (hn : rows.length ≤ 70000)
    (hb : b < w.heap.size) (hrow : RowsAt w b rows) (k : Nat) (hk : k < rows.length) (hq : (rows[k].id == id) = true) (hno : ∀ j (hj : j < rows.length), j < k → (rows[j].id == id) = false) :
    Calls Try.prog 11 #[.agg (stat (.slice (some ⟨b, 0, none⟩) rows.length cap)).toArray, .agg (u8s id).toArray] w fun e w' => e = .returned (.tuple #[.agg (cells rows[k]).toArray, .bool true]) ∧ Below w.heap.size w w' := by
  have hz := zero38
  have q1 := boxed_stat w (.slice (some ⟨b, 0, none⟩) rows.length cap) id
  have q2 := boxed_id w (.slice (some ⟨b, 0, none⟩) rows.length cap) id
  have q3 := boxed_there w (.slice (some ⟨b, 0, none⟩) rows.length cap) id
  have q4 := boxed_below w (.slice (some ⟨b, 0, none⟩) rows.length cap) id
  have q5 := boxed_size w (.slice (some ⟨b, 0, none⟩) rows.length cap) id
  have q6 := rowsAt_below q4 hb hrow
  have hrk := hok rows[k] (List.getElem_mem hk)
  have hcall := c28 b cap rows hok (w.heap.size + 1) id hid (boxed w (.slice (some ⟨b, 0, none⟩) rows.length cap) id) hn (by omega) (by omega) q6 q2 _ (fun _ => rfl)
  rw [idx_hit hk hq hno, q5] at hcall
  clear hno hq
  unfold boxed at hcall q1 q3 q4 q6
  go_enter Try.func11, Try.ntmps11
  go_wp2_with fail
  refine hcall.mono ?_
  rintro e w2 ⟨rfl, hb2⟩
  have q7 := there_below hb2 (by omega) q3
  have q8 := q4.trans (hb2.mono (by omega))
  have q9 := rangeAt_below hb2 (by omega) (q6 k hk)
  have q10 : w2.cell? ⟨w.heap.size, 37, none⟩ = some (.slice (some ⟨b, 0, none⟩) rows.length cap) := by rw [hb2.cell (by show w.heap.size < _; omega)]; exact q1
  clear q1 q2 q3 q4 q5 q6 hcall hb2
  go_wp2_with (first
    | (with_reducible show wpList _ _ _ (⟨_, .load 38 (.tmp 17), _, _, _, _⟩ :: _) _ _; refine wpL_load38 rfl _ rfl b (k * 131) rfl rows[k] hrk q9 ?_)
    | (with_reducible show wpList _ _ _ (⟨_, .store 38 _ _, _, _, _, _⟩ :: _) _ _; refine wpL_store38 rfl _ _ rfl (w.heap.size + 2) 0 rows[k] hrk rfl rfl q7 ?_))
  refine bodyPost_ret (v := .tuple #[.agg (cells rows[k]).toArray, .bool true]) ?_ rfl ⟨rfl, ?_⟩
  · exact results_mid2 Try.results11 _ _ (w.heap.size + 2) 0 (cells rows[k]) _ rfl (World.rangeAt_setCells_same _ _ _ _ (by rw [length_cells hrk]; exact q7)) Try.underlying38 rfl (by rw [size38, length_cells hrk])
  · exact below_setCells _ (by omega) _ _ _ q8

end Go.Proofs.Qxb6604552a.Node
