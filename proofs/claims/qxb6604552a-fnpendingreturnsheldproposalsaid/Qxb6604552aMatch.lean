import Derived.Test.Qxb6604552aPending
namespace Go.Proofs.Qxb6604552a.Pend
open Go.RowKit Mid
open Go.Proofs.Qxb6604552a.Node (wpL_load30 wpL_eql30 wpL_neq30 size23 size30 size5)
attribute [local simp] length_u8s

set_option maxRecDepth 100000 in
set_option maxHeartbeats 400000 in
theorem c35_nil (w : World) : Calls Try.prog 35 #[.slice none 0 0, .slice none 0 0] w fun e w' => e = .returned (.bool true) ∧ ∃ n, w' = w.drewN n := by
  have hnil := fun (w : World) (a : Option Addr) (n c : Nat) => Lib.run_eql_slice_nil (P := Try.prog) w 65 5 a n c 0 0 Try.underlying65
  have hnil' := fun (w : World) (a : Option Addr) (n c : Nat) => Lib.run_eql_slice_nil (P := Try.prog) w 66 5 a n c 0 0 Try.underlying66
  go_enter Try.func35, Try.ntmps35
  go_wp2
  refine wp_loop_rounds 1 ?_
  rw [rounds_succ]
  go_wp2
  go_ret
  exact ⟨rfl, 0, rfl⟩

set_option maxRecDepth 100000 in
set_option maxHeartbeats 400000 in
theorem c35_made (A A' : Addr) (cap cap' b off b' off' : Nat) (bs : List UInt8) (w : World) (hn : bs.length ≤ 1048576) (ha : bs.length ≠ 0 → A = ⟨b, off, none⟩) (ha' : bs.length ≠ 0 → A' = ⟨b', off', none⟩)
    (hr : w.rangeAt b off (u8s bs)) (hr' : w.rangeAt b' off' (u8s bs)) :
    Calls Try.prog 35 #[.slice (some A) bs.length cap, .slice (some A') bs.length cap'] w fun e w' => e = .returned (.bool true) ∧ ∃ n, w' = w.drewN n := by
  have hnil := fun (w : World) (a : Option Addr) (n c : Nat) => Lib.run_eql_slice_nil (P := Try.prog) w 65 5 a n c 0 0 Try.underlying65
  have hnil' := fun (w : World) (a : Option Addr) (n c : Nat) => Lib.run_eql_slice_nil (P := Try.prog) w 66 5 a n c 0 0 Try.underlying66
  go_enter Try.func35, Try.ntmps35
  go_wp2
  go_loopw [5] (fun i wr => ∃ (k n : Nat), k ≤ bs.length ∧ i = .int .i64 k ∧ wr = w.drewN n) (fun i _ => bs.length - (intOf i).toNat)
  case atStart => exact ⟨0, 0, Nat.zero_le _, rfl, rfl⟩
  case round =>
    obtain ⟨k, n, hk, rfl, rfl⟩ := hrel
    by_cases hlt : k < bs.length
    · obtain rfl := ha (by omega)
      obtain rfl := ha' (by omega)
      have hR := byte_cell hr hlt
      have hR' := byte_cell hr' hlt
      have hlt' : (k : Int) < (bs.length : Int) := by omega
      generalize hu : (bs[k].toNat : Int) = u at hR hR'
      clear hu
      go_wp2
      go_quiet (fail)
      go_wp2
      go_roundw
      case rel => exact ⟨k + 1, _, by omega, by go_num, rfl⟩
      case measure => simp [intOf]; omega
    · go_wp2
      go_ret
      exact ⟨rfl, n, rfl⟩

theorem c35 (f g : Buf) (w : World) (hf : f.Lies w) (hg : g.Lies w) (hbs : f.bs = g.bs) (hn : f.ao.isNone = g.ao.isNone) :
    Calls Try.prog 35 #[f.val, g.val] w fun e w' => e = .returned (.bool true) ∧ ∃ n, w' = w.drewN n := by
  obtain ⟨ao, cap, b, off, bs⟩ := f
  obtain ⟨ao', cap', b', off', bs'⟩ := g
  obtain rfl : bs = bs' := hbs
  cases ao with
  | none =>
    cases ao' with
    | some _ => cases hn
    | none =>
      have hz : bs = [] := by
        rcases Nat.eq_zero_or_pos bs.length with h | h
        · exact List.eq_nil_of_length_eq_zero h
        · have := (hf.addr (by show bs.length ≠ 0; omega)).1; cases this
      subst hz
      obtain rfl : cap = 0 := hf.nil rfl
      obtain rfl : cap' = 0 := hg.nil rfl
      exact c35_nil w
  | some A =>
    cases ao' with
    | none => cases hn
    | some A' => exact c35_made A A' cap cap' b off b' off' bs w hf.small (fun h => by simpa using (hf.addr h).1) (fun h => by simpa using (hg.addr h).1) hf.row hg.row

end Go.Proofs.Qxb6604552a.Pend
