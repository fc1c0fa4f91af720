import Derived.Test.Qxb6604552aStaleCalls
namespace Go.Proofs.Qxb6604552a.Stale
open Go.RowKit

/-- The ledger's change counter behind k steps. -/
def ver (v : Int) (k : Nat) : Int := (v + k) % 18446744073709551616
theorem ver_zero {v : Int} (h0 : 0 ≤ v) (h1 : v < 18446744073709551616) : ver v 0 = v := by unfold ver; omega
theorem ver_succ (v : Int) (k : Nat) : IntKind.u64.wrap (ver v k + 1) = ver v (k + 1) := by
  unfold ver; simp [IntKind.wrap, IntKind.signed, IntKind.bits]; omega
theorem ver_ne {v : Int} {j k : Nat} (h : j < k) (hk : k ≤ 65536) : ver v j ≠ ver v k := by unfold ver; omega

/-- What holds of the world at the head of round k. -/
structure Inv (v : Int) (n B : Nat) (w wr : World) (k : Nat) : Prop where
  led : wr.cell? ⟨B, 75, none⟩ = some (.int .u64 (ver v k))
  free : wr.frozen? ⟨B, 75, none⟩ = false
  row : ∀ j, j < n → ∃ y, wr.cell? ⟨B + 1, j, none⟩ = some (.int .u64 y) ∧ (j < k → y = ver v j)
  rowFree : ∀ j, j < n → wr.frozen? ⟨B + 1, j, none⟩ = false
  below : Below B w wr
  size : B + 2 ≤ wr.heap.size

theorem Inv.step {v : Int} {n B : Nat} {w wr : World} {k : Nat} (h : Inv v n B w wr k) (hk : k < n) (o : Obj) (m : Nat) :
    Inv v n B w (((wr.alloc o).setCell ⟨B, 75, none⟩ (.int .u64 (ver v (k + 1)))).drewN m |>.setCell ⟨B + 1, k, none⟩ (.int .u64 (ver v k))) (k + 1) := by
  have hs := h.size
  have c1 : (wr.alloc o).cell? ⟨B, 75, none⟩ = some (.int .u64 (ver v k)) := by rw [World.cell?_alloc_past _ _ _ (by omega)]; exact h.led
  refine ⟨?_, ?_, ?_, ?_, ?_, ?_⟩
  · rw [World.cell?_setCell_other _ _ _ _ (by simp), World.cell?_drewN]
    exact World.cell?_setCell_same _ _ _ c1
  · rw [World.frozen?_setCell, World.frozen?_drewN, World.frozen?_setCell, World.frozen?_alloc_past _ _ _ (by omega)]
    exact h.free
  · intro j hj
    obtain ⟨y, hy, hy'⟩ := h.row j hj
    have cj : ((((wr.alloc o).setCell ⟨B, 75, none⟩ (.int .u64 (ver v (k + 1)))).drewN m)).cell? ⟨B + 1, j, none⟩ = some (.int .u64 y) := by
      rw [World.cell?_drewN, World.cell?_setCell_other _ _ _ _ (by simp), World.cell?_alloc_past _ _ _ (by omega)]; exact hy
    by_cases hjk : j = k
    · subst hjk
      exact ⟨ver v j, World.cell?_setCell_same _ _ _ cj, fun _ => rfl⟩
    · exact ⟨y, by rw [World.cell?_setCell_other _ _ _ _ (by simp)]; exact cj, fun hlt => hy' (by omega)⟩
  · intro j hj
    rw [World.frozen?_setCell, World.frozen?_drewN, World.frozen?_setCell, World.frozen?_alloc_past _ _ _ (by omega)]
    exact h.rowFree j hj
  · exact (below_drewN ((h.below.alloc (by omega) o).setCell (by simp) _) m).setCell (by simp) _
  · simp [World.setCell]; omega

theorem info28 : (Try.prog.info? 28).map (fun i => (i.zero, i.size, i.bytes)) = some (some (.int .u64 0), 1, 8) := by kernel_rfl

theorem Inv.start {v : Int} {n : Nat} {w w1 : World} (h0 : 0 ≤ v) (h1 : v < 18446744073709551616)
    (hown : w1.ownsRow (w.heap.size + 1) 28 1 (Value.slice (some ⟨w.heap.size + 1, 0, none⟩) n n) n (madeCells #[Value.int IntKind.u64 0] n).toList)
    (hgr : (w.alloc (Obj.cells (zLed.setIfInBounds 75 (Value.int IntKind.u64 v)) 95)).grownBy w1 none) : Inv v n w.heap.size w w1 0 := by
  have hb : Below (w.heap.size + 1) (w.alloc (Obj.cells (zLed.setIfInBounds 75 (Value.int IntKind.u64 v)) 95)) w1 := (Below.refl _ _).grown hgr (by simp) (fun _ h => by cases h)
  obtain ⟨hl, h⟩ := hown
  rcases h with ⟨h, _⟩ | ⟨g, cap, cur, hv, hg, hh, hnc, hcm, hsz, htk⟩
  · cases h
  simp only [Value.slice.injEq, Option.some.injEq, Addr.mk.injEq] at hv
  obtain ⟨⟨rfl, _⟩, _, rfl⟩ := hv
  have hcur : cur.toList = (madeCells #[Value.int IntKind.u64 0] n).toList := by
    rw [← htk, List.take_of_length_le (by simp [hsz])]
  have hcell : ∀ j, j < n → w1.cell? ⟨w.heap.size + 1, j, none⟩ = some (.int .u64 0) := by
    intro j hj
    have : cur = madeCells #[Value.int IntKind.u64 0] n := by cases cur; simp at hcur; rw [hcur]
    subst this
    simp [World.cell?, hh, madeCells, hj, Nat.mod_one]
  refine ⟨?_, ?_, fun j hj => ⟨0, hcell j hj, fun h => by omega⟩, ?_, ?_, ?_⟩
  · rw [hb.cell (by simp), World.cell?_alloc_at _ _ _ _ rfl, ver_zero h0 h1]
    simp [zLed_size]
  · rw [hb.frozen (by simp), World.frozen?_alloc_at _ _ _ _ rfl]
  · intro j hj
    simp [World.frozen?, hh]
  · exact (((Below.refl _ _).alloc (Nat.le_refl _) _)).trans (hb.mono (by omega))
  · have : w.heap.size + 1 < w1.heap.size := by
      rcases Nat.lt_or_ge (w.heap.size + 1) w1.heap.size with h | h
      · exact h
      · rw [Array.getElem?_eq_none h] at hh; cases hh
    omega

theorem Inv.drewN {v : Int} {n B : Nat} {w wr : World} {k : Nat} (h : Inv v n B w wr k) (m : Nat) : Inv v n B w (wr.drewN m) k :=
  ⟨h.led, h.free, h.row, h.rowFree, below_drewN h.below m, h.size⟩

theorem Inv.cellAt {v : Int} {n B : Nat} {w wr : World} (h : Inv v n B w wr n) {j : Nat} (hj : j < n) : wr.cell? ⟨B + 1, j, none⟩ = some (.int .u64 (ver v j)) := by
  obtain ⟨y, hy, e⟩ := h.row j hj
  rw [hy, e hj]

set_option maxRecDepth 100000 in
set_option maxHeartbeats 1000000 in
theorem walk_in (v : Int) (n : Nat) (w : World) (h0 : 0 ≤ v) (h1 : v < 18446744073709551616) (hn : n ≤ 65536) :
    Calls Try.prog 7 #[.int .u64 v, .int .i64 n] w fun e w' => e = .returned (.bool true) ∧ Below w.heap.size w w' := by
  obtain ⟨i0, hi, hz0, hz1, hz2⟩ := info_parts info28
  have d1 : decide ((n : Int) < 0) = false := by simp
  have d2 : decide (65536 < (n : Int)) = false := by simp; omega
  go_enter Try.func7, Try.ntmps7
  go_wp2_with fail
  refine (c23 _ _).mono ?_
  rintro e w1 ⟨rfl, rfl⟩
  go_wp2_with (at_make; refine wpList_make_full _ rfl _ _ 70 rfl (w.heap.size + 1) 28 i0 (.int .u64 0) 1 Try.underlying70 hi hz0 hz1 _ _ _ _ n rfl rfl rfl rfl (by rw [hz2]; omega) (by unfold maxLen; omega) (by simp) ?_)
  intro w1 hown hgr
  have HI := Inv.start h0 h1 hown hgr
  clear hown hgr
  go_wp2
  go_loopw [7] (fun i wr => ∃ k : Nat, k ≤ n ∧ i = .int .i64 k ∧ Inv v n w.heap.size w wr k) (fun i _ => n - (intOf i).toNat)
  case atStart => exact ⟨0, Nat.zero_le _, rfl, HI⟩
  case round =>
    clear HI
    obtain ⟨k, hk, rfl, HI⟩ := hrel
    by_cases hlt : k < n
    · have q1 := HI.led
      have q2 := HI.free
      have q3 := HI.size
      obtain ⟨y, q4, _⟩ := HI.row k hlt
      have q5 := HI.rowFree k hlt
      go_wp2_with fail
      refine (c25 _ _ _ q1).mono ?_
      rintro e w2 ⟨rfl, rfl⟩
      go_wp2_with fail
      refine (c24 _ _).mono ?_
      rintro e w3 ⟨rfl, rfl⟩
      have g1 : (wr.alloc (.cells #[.int .u64 (ver v k), .func (.func 36) #[] #[]] 100)).cell? ⟨w.heap.size, 75, none⟩ = some (.int .u64 (ver v k)) := by rw [World.cell?_alloc_past _ _ _ (by omega)]; exact q1
      have g2 : (wr.alloc (.cells #[.int .u64 (ver v k), .func (.func 36) #[] #[]] 100)).frozen? ⟨w.heap.size, 75, none⟩ = false := by rw [World.frozen?_alloc_past _ _ _ (by omega)]; exact q2
      go_wp2_with fail
      refine (c26 _ wr.heap.size _ _ g1 g2 (by simp) (by simp)).mono ?_
      rintro e w3 ⟨rfl, m, rfl⟩
      rw [ver_succ]
      have g3 : (((wr.alloc (.cells #[.int .u64 (ver v k), .func (.func 36) #[] #[]] 100)).setCell ⟨w.heap.size, 75, none⟩ (.int .u64 (ver v (k + 1)))).drewN m).cell? ⟨wr.heap.size, 0, none⟩ = some (.int .u64 (ver v k)) := by
        rw [World.cell?_drewN, World.cell?_setCell_other _ _ _ _ (by simp)]; simp
      have g4 : (((wr.alloc (.cells #[.int .u64 (ver v k), .func (.func 36) #[] #[]] 100)).setCell ⟨w.heap.size, 75, none⟩ (.int .u64 (ver v (k + 1)))).drewN m).cell? ⟨w.heap.size + 1, k, none⟩ = some (.int .u64 y) := by
        rw [World.cell?_drewN, World.cell?_setCell_other _ _ _ _ (by simp), World.cell?_alloc_past _ _ _ (by omega)]; exact q4
      have g5 : (((wr.alloc (.cells #[.int .u64 (ver v k), .func (.func 36) #[] #[]] 100)).setCell ⟨w.heap.size, 75, none⟩ (.int .u64 (ver v (k + 1)))).drewN m).frozen? ⟨w.heap.size + 1, k, none⟩ = false := by
        rw [World.frozen?_drewN, World.frozen?_setCell, World.frozen?_alloc_past _ _ _ (by omega)]; exact q5
      have HS := HI.step hlt (.cells #[.int .u64 (ver v k), .func (.func 36) #[] #[]] 100) m
      clear g1 g2 q1 q2 q4 q5
      generalize hw4 : (((wr.alloc (.cells #[.int .u64 (ver v k), .func (.func 36) #[] #[]] 100)).setCell ⟨w.heap.size, 75, none⟩ (.int .u64 (ver v (k + 1)))).drewN m) = w4 at *
      clear hw4
      go_wp2_with fail
      refine (c27 _ _ _ g3).mono ?_
      rintro e w3 ⟨rfl, rfl⟩
      go_wp2
      go_roundw
      case rel => exact ⟨k + 1, by omega, by go_num, HS⟩
      case measure => simp [intOf]; omega
    · obtain rfl : k = n := by omega
      have q1 := HI.led
      go_wp2_with fail
      refine (c25 _ _ _ q1).mono ?_
      rintro e w2 ⟨rfl, rfl⟩
      go_wp2
      go_loopw [10] (fun i wr => ∃ j : Nat, j ≤ k ∧ i = .int .i64 j ∧ Inv v k w.heap.size w wr k) (fun i _ => k - (intOf i).toNat)
      case atStart => exact ⟨0, Nat.zero_le _, rfl, HI⟩
      case round =>
        clear HI q1
        obtain ⟨j, hj, rfl, HI⟩ := hrel
        by_cases hlt : j < k
        · have q1 := HI.cellAt hlt
          have e1 : (ver v j == ver v k) = false := by simpa using ver_ne hlt hn
          by_cases hj0 : j = 0
          · subst hj0
            go_wp2
            go_quiet (fail)
            go_wp2
            go_roundw
            case rel => exact ⟨0 + 1, by omega, by go_num, HI.drewN _⟩
            case measure => simp [intOf]; omega
          · have hp : 0 < j := by omega
            have q2 := HI.cellAt (show j - 1 < k by omega)
            have e2 : (ver v j == ver v (j - 1)) = false := by simpa using fun e => ver_ne (v := v) (show j - 1 < j by omega) (by omega) e.symm
            have e3 : ((j : Int) - 1).toNat = j - 1 := by omega
            have e4 : (0 : Int) ≤ (j : Int) - 1 := by omega
            have e5 : (j : Int) - 1 < (k : Int) := by omega
            have e6 : (j : Int) < (k : Int) := by omega
            go_wp2
            go_quiet (fail)
            go_wp2
            go_roundw
            case rel => exact ⟨j + 1, by omega, by go_num, HI.drewN _⟩
            case measure => simp [intOf]; omega
        · obtain rfl : j = k := by omega
          by_cases hj0 : j = 0
          · subst hj0
            go_wp2
            go_ret
            exact ⟨rfl, HI.below⟩
          · have q1 := HI.cellAt (show 0 < j by omega)
            rw [ver_zero h0 h1] at q1
            have e1 : ((j : Int) == 0) = false := by simp; omega
            have hp : (0 : Int) < (j : Int) := by omega
            go_wp2
            go_ret
            exact ⟨rfl, HI.below⟩

end Go.Proofs.Qxb6604552a.Stale
