import Derived.Test.Qxb6604552aAppd
import Derived.Deep.Cut
namespace Go.Proofs.Qxb6604552a.Node
open Go.RowKit Mid
attribute [local simp] length_u8s

def zid : List UInt8 := List.replicate 32 0
theorem zero30' (w : World) : (zeroValue 30).run Try.prog w = .ok (.agg (u8s zid).toArray) w := zero30 w
theorem length_zid : zid.length = 32 := rfl

/-- A new block of as many cells as are then stored into it. -/
theorem laid_facts (w : World) (z cs : List Value) (t : TypeId) (hl : z.length = cs.length) :
    ((w.alloc (.cells z.toArray t)).setCells w.heap.size 0 cs).rangeAt w.heap.size 0 cs ∧ Below w.heap.size w ((w.alloc (.cells z.toArray t)).setCells w.heap.size 0 cs) ∧ ((w.alloc (.cells z.toArray t)).setCells w.heap.size 0 cs).heap.size = w.heap.size + 1 ∧ (w.alloc (.cells z.toArray t)).there w.heap.size 0 cs.length := by
  have ht : (w.alloc (.cells z.toArray t)).there w.heap.size 0 cs.length := by
    have := there_new w z.toArray t
    simpa [hl] using this
  exact ⟨World.rangeAt_setCells_same _ _ _ _ ht, below_setCells _ (Nat.le_refl _) _ _ _ ((Below.refl _ _).alloc (Nat.le_refl _) _), by rw [size_setCells]; simp, ht⟩

set_option maxRecDepth 100000 in
set_option maxHeartbeats 2000000 in
theorem walk_in (ao : Option Addr) (cap b off : Nat) (rows : List Row) (x : Row) (N1 : List Value) (ok1 : Bool) (r2 : Row) (hL : Looks rows x N1 ok1 r2) (hok : ∀ r ∈ rows, r.Ok) (hx : x.Ok) (w : World)
    (hn : rows.length ≤ 65536) (hxa : x.addr.size ≤ 1048576) (hb : rows.length ≠ 0 → b < w.heap.size) (hrow : RowsOff w b off rows) (ha : rows.length ≠ 0 → ao = some ⟨b, off, none⟩) (hnil : ao = none → cap = 0) :
    Calls Try.prog 4 #[.slice ao rows.length cap, .agg (cells x).toArray] w fun e w' => e = .returned (.bool true) ∧ Below w.heap.size w w' := by
  have B0 : Below w.heap.size w (w.alloc (.cells (cells x).toArray 42)) := (Below.refl _ _).alloc (Nat.le_refl _) _
  have X0 : (w.alloc (.cells (cells x).toArray 42)).rangeAt w.heap.size 0 (cells x) := rangeAt_new _ _ _
  have S0 : (w.alloc (.cells (cells x).toArray 42)).heap.size = w.heap.size + 1 := by simp
  have R0 := rowsOff_below B0 hb hrow
  go_enter Try.func4, Try.ntmps4
  go_wp2_with (with_reducible show wpList _ _ _ (⟨_, .load 42 (.tmp 3), _, _, _, _⟩ :: _) _ _; refine wpL_load42 rfl _ rfl w.heap.size 0 rfl x hx X0 ?_)
  refine (c13 ao cap b off rows x hx hok _ (by omega) (fun h => by have := hb h; omega) R0 ha).mono ?_
  rintro e w1 ⟨⟨q, rfl⟩, C1⟩
  rw [S0] at C1
  have B1 : Below w.heap.size w w1 := B0.trans (C1.mono (by omega))
  have X1 := rangeAt_below C1 (by omega) X0
  have R1 := rowsOff_below B1 hb hrow
  have S1 : w.heap.size < w1.heap.size := by have := C1.size; omega
  clear B0 X0 S0 R0 C1
  have A1 := (parts_of hx X1).addr
  simp only [Nat.zero_add] at A1
  cases q
  · go_wp2
    go_ret
    exact ⟨rfl, B1⟩
  have d1 : decide (65536 < (rows.length : Int)) = false := by simp; omega
  have d2 : decide (1048576 < (x.addr.size : Int)) = false := by simp; omega
  have d3 : (rows.length : Int) ≤ 65536 := by omega
  have d4 : (x.addr.size : Int) ≤ 1048576 := by omega
  go_wp2_with fail
  refine (c9 ao cap b off rows _ hok _ hn R1 ha).mono ?_
  rintro e w2 ⟨⟨q, rfl⟩, rfl⟩
  cases q
  case true =>
    go_wp2
    go_ret
    exact ⟨rfl, B1⟩
  have I1 := (parts_of hx X1).id
  obtain ⟨I3, B3, S3, T3⟩ := laid_facts w1 (u8s zid) (u8s x.id) 30 (by simp [length_zid, hx.id])
  have hz30 := zero30'
  go_upto_region 8 with (first
    | (with_reducible show wpList _ _ _ (⟨_, .load 23 (.tmp 33), _, _, _, _⟩ :: _) _ _; refine wpL_load rfl 23 _ rfl w.heap.size 0 rfl (u8s x.id) _ I1 Try.underlying23 rfl (by rw [size23]; simp [hx.id]) ?_)
    | (with_reducible show wpList _ _ _ (⟨_, .store 30 _ _, _, _, _, _⟩ :: _) _ _; refine wpL_store rfl 30 _ _ rfl w1.heap.size 0 (u8s x.id) rfl rfl T3 (by rw [size30]; simp [hx.id]) (one_u8s _) ?_))
  have X3 := rangeAt_below B3 S1 X1
  have R3 := rowsOff_below (B1.trans (B3.mono (Nat.le_of_lt S1))) hb hrow
  have D3 : Below w.heap.size w _ := B1.trans (B3.mono (Nat.le_of_lt S1))
  clear B3 T3 I1 A1 R1 X1 B1 hz30
  generalize hw3 : (w1.alloc (.cells (u8s zid).toArray 30)).setCells w1.heap.size 0 (u8s x.id) = w3 at *
  clear hw3
  generalize hbi : w1.heap.size = bi at *
  clear hbi
  go_wp2_with fail
  refine (c10 ao cap b off rows hok w3 hn (by omega) (fun h => by have := hb h; omega) R3 ha hnil).mono ?_
  rintro e w4 ⟨a1, b1, c1, rfl, ha1, hr1, hb1, B4⟩
  have I4 := rangeAt_below B4 (by omega) I3
  have X4 := rangeAt_below B4 (by omega) X3
  have R4 := rowsOff_below (D3.trans (B4.mono (by omega))) hb hrow
  have D4 : Below w.heap.size w w4 := D3.trans (B4.mono (by omega))
  have S4 : bi < w4.heap.size := by have := B4.size; omega
  clear B4 R3 D3 I3 X3 S3
  have hz35 := zero35
  obtain ⟨Y5, B5, S5, T5⟩ := laid_facts w4 (stat (.slice none 0 0)) (stat (.slice a1 rows.length c1)) 35 (by rw [length_stat, length_stat])
  go_upto_region 9 with (first
    | (with_reducible show wpList _ _ _ (⟨_, .build 35 _, _, _, _, _⟩ :: _) _ _; refine wpL_build rfl 35 [(5, .tmp 36)] rfl [(5, .slice a1 rows.length c1)] rfl _ (build35 _ _ rfl) ?_)
    | (with_reducible show wpList _ _ _ (⟨_, .store 35 _ _, _, _, _, _⟩ :: _) _ _; refine wpL_store rfl 35 _ _ rfl w4.heap.size 0 (stat (.slice a1 rows.length c1)) rfl rfl T5 (by rw [size35, length_stat]) (one_stat rfl) ?_))
  have I5 := rangeAt_below B5 S4 I4
  have X5 := rangeAt_below B5 (by omega) X4
  have hr5 := rowsAt_below B5 hb1 hr1
  have D5 : Below w.heap.size w _ := D4.trans (B5.mono (by omega))
  clear B5 T5 I4 R4 X4 D4 hz35 hr1
  generalize hw5 : (w4.alloc (Obj.cells (stat (Value.slice none 0 0)).toArray 35)).setCells w4.heap.size 0 (stat (Value.slice a1 rows.length c1)) = w5 at *
  clear hw5
  generalize hbs : w4.heap.size = bs at *
  clear hbs
  obtain ⟨i0, hi, hz0, hz1, hz2⟩ := info_parts info38
  go_wp2_with (at_make; refine wpList_make_full _ rfl _ _ 26 rfl w5.heap.size 38 i0 (.agg z38.toArray) 131 Try.underlying26 hi hz0 hz1 _ _ _ _ (rows.length + 1) rfl rfl (by omega) (by omega) (by rw [hz2]; omega) (by unfold maxLen; omega) (by simp) ?_)
  intro w6 hown hgr
  have HF : Fill w5 (bs + 1) (rows.length + 1) (rows ++ [x]) w5 w6 0 := fill_made S5 hown hgr
  clear hown hgr hi hz0 hz1 hz2
  have hokX : ∀ r ∈ rows ++ [x], r.Ok := by
    intro r hr
    rcases List.mem_append.1 hr with h | h
    · exact hok r h
    · simp at h; subst h; exact hx
  go_wp2
  go_loopw [8] (fun i wr => ∃ k : Nat, k ≤ rows.length ∧ i = .int .i64 k ∧ Fill w5 (bs + 1) (rows.length + 1) (rows ++ [x]) w5 wr k) (fun i _ => rows.length - (intOf i).toNat)
  case atStart => exact ⟨0, Nat.zero_le _, rfl, HF⟩
  case round =>
    clear HF
    obtain ⟨k, hk, rfl, HF⟩ := hrel
    by_cases hlt : k < rows.length
    · have hR := rangeAt_below (D5.trans (HF.below.mono (by omega))) (hb (by omega)) (hrow k hlt)
      have hrk := hok rows[k] (List.getElem_mem hlt)
      obtain rfl := ha (by omega)
      go_wp2_with (with_reducible show wpList _ _ _ (⟨_, .load 42 (.tmp 52), _, _, _, _⟩ :: _) _ _; refine wpL_load42 rfl _ rfl b (off + k * 131) rfl rows[k] hrk hR ?_)
      refine (c12 rows[k] hrk _).mono ?_
      rintro e w7 ⟨rfl, hb2⟩
      have HF2 := HF.next hb2
      have hT := HF2.room k (by omega)
      have HP := HF2.put (k := k) (by simp; omega) (by omega) hokX
      rw [List.getElem_append_left hlt] at HP
      have hlt1 : (k : Int) < (rows.length : Int) + 1 := by omega
      go_wp2_with (with_reducible show wpList _ _ _ (⟨_, .store 38 _ _, _, _, _, _⟩ :: _) _ _; refine wpL_store38 rfl _ _ rfl (bs + 1) (k * 131) rows[k] hrk rfl rfl hT ?_)
      go_roundw
      case rel => exact ⟨k + 1, by omega, by go_num, HP⟩
      case measure => simp [intOf]; omega
    · obtain rfl : k = rows.length := by omega
      have X6 := rangeAt_below HF.below (by omega) X5
      go_wp2_with (with_reducible show wpList _ _ _ (⟨_, .load 42 (.tmp 3), _, _, _, _⟩ :: _) _ _; refine wpL_load42 rfl _ rfl w.heap.size 0 rfl x hx X6 ?_)
      refine (c12 x hx _).mono ?_
      rintro e w7 ⟨rfl, hb2⟩
      have HF2 := HF.next hb2
      have hT := HF2.room rows.length (by omega)
      have HP := HF2.put (k := rows.length) (by simp) (by omega) hokX
      rw [List.getElem_append_right (Nat.le_refl _)] at HP
      simp only [Nat.sub_self, List.getElem_cons_zero] at HP
      have hlt1 : (rows.length : Int) < (rows.length : Int) + 1 := by omega
      go_upto_region 15 with (with_reducible show wpList _ _ _ (⟨_, .store 38 _ _, _, _, _, _⟩ :: _) _ _; refine wpL_store38 rfl _ _ rfl (bs + 1) (rows.length * 131) x hx rfl rfl hT ?_)
      clear HF HF2 hT hb2 X6
      generalize hw8 : w7.setCells (bs + 1) (rows.length * 131) (cells x) = w8 at *
      clear hw8
      have RX8 : RowsAt w8 (bs + 1) (rows ++ [x]) := fun i hi => HP.done i hi (by simp at hi; omega)
      have D8 : Below w.heap.size w w8 := D5.trans (HP.below.mono (by omega))
      have Y8 := rangeAt_below HP.below (by omega) Y5
      have I8 := rangeAt_below HP.below (by omega) I5
      have X8 := rangeAt_below HP.below (by omega) X5
      have hr8 := rowsAt_below HP.below (by omega) hr5
      have S8 := HP.size
      clear HP D5 Y5 I5 X5 hr5 S5 hlt1 hlt hk
      have hz35 := zero35
      obtain ⟨Y9, B9, S9, T9⟩ := laid_facts w8 (stat (.slice none 0 0)) (stat (.slice (some ⟨bs + 1, 0, none⟩) (rows.length + 1) (rows.length + 1))) 35 (by rw [length_stat, length_stat])
      go_upto_region 16 with (first
        | (with_reducible show wpList _ _ _ (⟨_, .build 35 _, _, _, _, _⟩ :: _) _ _; refine wpL_build rfl 35 [(5, .tmp 62)] rfl [(5, .slice (some ⟨bs + 1, 0, none⟩) (rows.length + 1) (rows.length + 1))] rfl _ (build35 _ _ rfl) ?_)
        | (with_reducible show wpList _ _ _ (⟨_, .store 35 _ _, _, _, _, _⟩ :: _) _ _; refine wpL_store rfl 35 _ _ rfl w8.heap.size 0 (stat (.slice (some ⟨bs + 1, 0, none⟩) (rows.length + 1) (rows.length + 1))) rfl rfl T9 (by rw [size35, length_stat]) (one_stat rfl) ?_))
      have RX9 := rowsAt_below B9 S8 RX8
      have D9 : Below w.heap.size w _ := D8.trans (B9.mono (by omega))
      have Z9 := rangeAt_below B9 (by omega) Y8
      have I9 := rangeAt_below B9 (by omega) I8
      have X9 := rangeAt_below B9 (by omega) X8
      have hr9 := rowsAt_below B9 (by omega) hr8
      clear RX8 D8 Y8 I8 X8 hr8 B9 T9 hz35
      generalize hw9 : (w8.alloc (Obj.cells (stat (Value.slice none 0 0)).toArray 35)).setCells w8.heap.size 0 (stat (.slice (some ⟨bs + 1, 0, none⟩) (rows.length + 1) (rows.length + 1))) = w9 at *
      clear hw9
      generalize hb9 : w8.heap.size = b9 at *
      clear hb9
      have hcall := hL.first w9 b1 c1 a1 (by omega) hr9 ha1
      go_wp2_with (first
        | (with_reducible show wpList _ _ _ (⟨_, .load 35 (.tmp 6), _, _, _, _⟩ :: _) _ _; refine wpL_load rfl 35 _ rfl bs 0 rfl (stat (.slice a1 rows.length c1)) _ Z9 Try.underlying35 rfl (by rw [size35, length_stat]) ?_)
        | (with_reducible show wpList _ _ _ (⟨_, .load 30 (.tmp 5), _, _, _, _⟩ :: _) _ _; refine wpL_load30 rfl _ rfl bi 0 rfl x.id hx.id I9 ?_))
      refine hcall.mono ?_
      rintro e w10 ⟨rfl, B10⟩
      clear hcall
      have RX10 := rowsAt_below B10 (by omega) RX9
      have D10 : Below w.heap.size w w10 := D9.trans (B10.mono (by omega))
      have Y10 := rangeAt_below B10 (by omega) Y9
      have I10 := rangeAt_below B10 (by omega) I9
      have X10 := rangeAt_below B10 (by omega) X9
      have S10 : b9 < w10.heap.size := by have := B10.size; omega
      clear RX9 D9 Z9 Y9 I9 X9 hr9 B10 S9
      have hz38 := zero38
      obtain ⟨N11, B11, S11, T11⟩ := laid_facts w10 z38 N1 38 (by rw [length_z38, hL.len])
      go_upto_region 17 with (with_reducible show wpList _ _ _ (⟨_, .store 38 _ _, _, _, _, _⟩ :: _) _ _; refine wpL_store rfl 38 _ _ rfl w10.heap.size 0 N1 rfl rfl T11 (by rw [size38, hL.len]) hL.one ?_)
      have RX11 := rowsAt_below B11 (by omega) RX10
      have D11 : Below w.heap.size w _ := D10.trans (B11.mono (by omega))
      have Y11 := rangeAt_below B11 (by omega) Y10
      have I11 := rangeAt_below B11 (by omega) I10
      have X11 := rangeAt_below B11 (by omega) X10
      clear RX10 D10 Y10 I10 X10 B11 T11
      generalize hw11 : (w10.alloc (Obj.cells z38.toArray 38)).setCells w10.heap.size 0 N1 = w11 at *
      clear hw11
      generalize hb10 : w10.heap.size = b10 at *
      clear hb10
      have hcall := hL.second w11 (bs + 1) (rows.length + 1) (by omega) RX11
      go_wp2_with (first
        | (with_reducible show wpList _ _ _ (⟨_, .load 35 (.tmp 9), _, _, _, _⟩ :: _) _ _; refine wpL_load rfl 35 _ rfl b9 0 rfl (stat (.slice (some ⟨bs + 1, 0, none⟩) (rows.length + 1) (rows.length + 1))) _ Y11 Try.underlying35 rfl (by rw [size35, length_stat]) ?_)
        | (with_reducible show wpList _ _ _ (⟨_, .load 30 (.tmp 5), _, _, _, _⟩ :: _) _ _; refine wpL_load30 rfl _ rfl bi 0 rfl x.id hx.id I11 ?_))
      refine hcall.mono ?_
      rintro e w12 ⟨rfl, B12⟩
      clear hcall
      have D12 : Below w.heap.size w w12 := D11.trans (B12.mono (by omega))
      have N12 := rangeAt_below B12 (by omega) N11
      have I12 := rangeAt_below B12 (by omega) I11
      have X12 := rangeAt_below B12 (by omega) X11
      have S12 : b10 < w12.heap.size := by have := B12.size; omega
      clear RX11 D11 Y11 I11 X11 N11 B12 S11
      obtain ⟨M13, B13, S13, T13⟩ := laid_facts w12 z38 (cells r2) 38 (by rw [length_z38, length_cells hL.ok])
      go_upto_region 18 with (with_reducible show wpList _ _ _ (⟨_, .store 38 _ _, _, _, _, _⟩ :: _) _ _; refine wpL_store38 rfl _ _ rfl w12.heap.size 0 r2 hL.ok rfl rfl (by rw [← length_cells hL.ok]; exact T13) ?_)
      have D13 : Below w.heap.size w _ := D12.trans (B13.mono (by omega))
      have N13 := rangeAt_below B13 (by omega) N12
      have I13 := rangeAt_below B13 (by omega) I12
      have X13 := rangeAt_below B13 (by omega) X12
      clear D12 I12 X12 N12 B13 T13
      generalize hw13 : (w12.alloc (Obj.cells z38.toArray 38)).setCells w12.heap.size 0 (cells r2) = w13 at *
      clear hw13
      generalize hb12 : w12.heap.size = b12 at *
      clear hb12 hz38
      have hid : (r2.id == x.id) = true := by rw [hL.id]; simp
      have P13 := (parts_of hL.ok M13).id
      have hr2 := hL.ok
      cases ok1
      case true =>
        obtain rfl := hL.hit rfl
        have Q13 := (parts_of hr2 N13).id
        go_wp2_with (first
          | (with_reducible show wpList _ _ _ (⟨_, .load 30 (.tmp 79), _, _, _, _⟩ :: _) _ _; refine wpL_load30 rfl _ rfl b12 0 rfl r2.id hr2.id P13 ?_)
          | (with_reducible show wpList _ _ _ (⟨_, .load 30 (.tmp 85), _, _, _, _⟩ :: _) _ _; refine wpL_load30 rfl _ rfl b10 0 rfl r2.id hr2.id Q13 ?_)
          | (with_reducible show wpList _ _ _ (⟨_, .load 30 (.tmp 5), _, _, _, _⟩ :: _) _ _; refine wpL_load30 rfl _ rfl bi 0 rfl x.id hx.id I13 ?_)
          | (with_reducible show wpList _ _ _ (⟨_, .binOp .neq 30 _ _ _, _, _, _, _⟩ :: _) _ _; refine wpL_neq30 rfl _ _ rfl r2.id x.id rfl rfl hr2.id hx.id ?_)
          | (with_reducible show wpList _ _ _ (⟨_, .binOp .eql 30 _ _ _, _, _, _, _⟩ :: _) _ _; refine wpL_eql30 rfl _ _ rfl r2.id x.id rfl rfl hr2.id hx.id ?_)
          | (with_reducible show wpList _ _ _ (⟨_, .load 38 (.tmp 12), _, _, _, _⟩ :: _) _ _; refine wpL_load38 rfl _ rfl b12 0 rfl r2 hr2 M13 ?_)
          | (with_reducible show wpList _ _ _ (⟨_, .load 38 (.tmp 10), _, _, _, _⟩ :: _) _ _; refine wpL_load38 rfl _ rfl b10 0 rfl r2 hr2 N13 ?_)
          | (with_reducible show wpList _ _ _ (⟨_, .binOp .eql 38 _ _ _, _, _, _, _⟩ :: _) _ _; refine wpL_eql38 rfl _ _ rfl r2 hr2 rfl rfl ?_))
        go_ret
        exact ⟨rfl, D13⟩
      case false =>
        obtain rfl := hL.miss rfl
        go_upto_region 22 with (first
          | (with_reducible show wpList _ _ _ (⟨_, .load 30 (.tmp 79), _, _, _, _⟩ :: _) _ _; refine wpL_load30 rfl _ rfl b12 0 rfl r2.id hr2.id P13 ?_)
          | (with_reducible show wpList _ _ _ (⟨_, .load 30 (.tmp 5), _, _, _, _⟩ :: _) _ _; refine wpL_load30 rfl _ rfl bi 0 rfl r2.id hx.id I13 ?_)
          | (with_reducible show wpList _ _ _ (⟨_, .binOp .neq 30 _ _ _, _, _, _, _⟩ :: _) _ _; refine wpL_neq30 rfl _ _ rfl r2.id r2.id rfl rfl hr2.id hx.id ?_))
        refine wp_region_held (S := fun w' => w'.rangeAt w.heap.size 0 (cells r2) ∧ w'.rangeAt b12 0 (cells r2) ∧ Below w.heap.size w w' ∧ b12 < w'.heap.size ∧ w.heap.size < w'.heap.size) (by kernel_rfl) ?_
        have hS : w13.drew.rangeAt w.heap.size 0 (cells r2) ∧ w13.drew.rangeAt b12 0 (cells r2) ∧ Below w.heap.size w w13.drew ∧ b12 < w13.drew.heap.size ∧ w.heap.size < w13.drew.heap.size :=
          ⟨X13, M13, D13.drew, by show b12 < w13.heap.size; omega, by show w.heap.size < w13.heap.size; omega⟩
        refine wpAnyH_take (i := 0) rfl (by decide +kernel) (by decide +kernel) (by decide +kernel) (fun _ _ _ h => h) (yieldsIf_load_mid rfl 38 _ rfl b12 0 rfl (cells r2) _ (fun _ h => h.2.1) Try.underlying38 rfl (by rw [size38, length_cells hr2])) hS ?_
        refine wpAnyH_take (i := 1) rfl (by decide +kernel) (by decide +kernel) (by decide +kernel) (fun _ _ _ h => h) (yieldsIf_load_mid rfl 42 _ rfl w.heap.size 0 rfl (cells r2) _ (fun _ h => h.1) Try.underlying42 rfl (by rw [size42, length_cells hr2])) hS ?_
        refine wpAnyH_all (rs := [2]) (by decide +kernel) (by simp) ?_
        intro i hi
        obtain rfl := List.mem_singleton.1 hi
        refine wpOp_enter rfl rfl 12 #[.agg (cells r2).toArray] (by kernel_rfl) _ _ (c12 r2 hr2 _) ?_
        intro w14 hb14
        refine ⟨⟨rangeAt_below hb14 hS.2.2.2.2 hS.1, rangeAt_below hb14 hS.2.2.2.1 hS.2.1, hS.2.2.1.trans (hb14.mono hS.2.2.1.size), Nat.lt_of_lt_of_le hS.2.2.2.1 hb14.size, Nat.lt_of_lt_of_le hS.2.2.2.2 hb14.size⟩, ?_⟩
        have D14 : Below w.heap.size w w14 := hS.2.2.1.trans (hb14.mono hS.2.2.1.size)
        refine wpAnyH_all (rs := [3]) (by decide +kernel) (by simp) ?_
        intro i hi
        obtain rfl := List.mem_singleton.1 hi
        have hS14 : w14.rangeAt w.heap.size 0 (cells r2) ∧ w14.rangeAt b12 0 (cells r2) ∧ Below w.heap.size w w14 ∧ b12 < w14.heap.size ∧ w.heap.size < w14.heap.size :=
          ⟨rangeAt_below hb14 hS.2.2.2.2 hS.1, rangeAt_below hb14 hS.2.2.2.1 hS.2.1, D14, Nat.lt_of_lt_of_le hS.2.2.2.1 hb14.size, Nat.lt_of_lt_of_le hS.2.2.2.2 hb14.size⟩
        refine wpOp_val rfl rfl _ _ (exec_eql38 _ _ rfl r2 hr2 rfl rfl) ⟨hS14, ?_⟩
        refine wpAnyH_all (rs := [4]) (by decide +kernel) (by simp) ?_
        intro i hi
        obtain rfl := List.mem_singleton.1 hi
        refine wpOp_val rfl rfl (.bool true) w14 (by kernel_rfl) ⟨hS14, ?_⟩
        refine wpAnyH_done (by decide +kernel) ?_ _
        clear hS hS14 hb14
        go_wp2
        go_ret
        exact ⟨rfl, D14⟩

end Go.Proofs.Qxb6604552a.Node
