import Derived.Test.Qxb6604552aProg
import Derived.WalkKit
import Derived.WalkLawsBesides
import Derived.WalkSpells
import Derived.BigQuiet
namespace Go.Proofs.Qxb6604552a.Stale
open Go.RowKit

def zLed : Array Value := (List.replicate 32 (Value.int .u8 0) ++ [Value.int .u64 0] ++ List.replicate 32 (Value.int .u8 0) ++ [Value.int .u64 0, .slice none 0 0, .slice none 0 0, .slice none 0 0, .pointer none, .int .u64 0, .slice none 0 0, .slice none 0 0, .pointer none, .slice none 0 0, .int .u64 0]).toArray
theorem zLed_size : zLed.size = 76 := by kernel_rfl
theorem zero95 (w : World) : (zeroValue 95).run Try.prog w = .ok (.agg zLed) w := by kernel_rfl

set_option maxRecDepth 100000 in
set_option maxHeartbeats 400000 in
theorem c23 (v : Int) (w : World) :
    Calls Try.prog 23 #[.int .u64 v] w fun e w' => e = .returned (.pointer (some ⟨w.heap.size, 0, none⟩)) ∧ w' = w.alloc (.cells (zLed.setIfInBounds 75 (.int .u64 v)) 95) := by
  have hz := zero95
  have hs := zLed_size
  go_enter Try.func23, Try.ntmps23
  go_wp2
  go_ret
  exact ⟨rfl, rfl⟩

set_option maxRecDepth 100000 in
set_option maxHeartbeats 400000 in
theorem c25 (b : Nat) (x : Int) (w : World) (hc : w.cell? ⟨b, 75, none⟩ = some (.int .u64 x)) :
    Calls Try.prog 25 #[.pointer (some ⟨b, 0, none⟩)] w fun e w' => e = .returned (.int .u64 x) ∧ w = w' := by
  go_enter Try.func25, Try.ntmps25
  go_wp2
  go_ret
  exact ⟨rfl, rfl⟩

set_option maxRecDepth 100000 in
set_option maxHeartbeats 400000 in
theorem c27 (b : Nat) (x : Int) (w : World) (hc : w.cell? ⟨b, 0, none⟩ = some (.int .u64 x)) :
    Calls Try.prog 27 #[.pointer (some ⟨b, 0, none⟩)] w fun e w' => e = .returned (.int .u64 x) ∧ w = w' := by
  go_enter Try.func27, Try.ntmps27
  go_wp2
  go_ret
  exact ⟨rfl, rfl⟩

set_option maxRecDepth 100000 in
set_option maxHeartbeats 400000 in
theorem c24 (v : Int) (w : World) :
    Calls Try.prog 24 #[.int .u64 v] w fun e w' => e = .returned (.pointer (some ⟨w.heap.size, 0, none⟩)) ∧ w' = w.alloc (.cells #[.int .u64 v, .func (.func 36) #[] #[]] 100) := by
  go_enter Try.func24, Try.ntmps24
  go_wp2
  go_ret
  exact ⟨rfl, rfl⟩

set_option maxRecDepth 100000 in
theorem c36 (w : World) : Calls Try.prog 36 #[] w fun e w' => e = .returned (.tuple #[]) ∧ w' = w := by
  go_enter Try.func36, Try.ntmps36
  go_wp2
  go_end0
  exact ⟨rfl, rfl⟩

set_option maxRecDepth 100000 in
set_option maxHeartbeats 400000 in
theorem c26 (b c : Nat) (x : Int) (w : World) (hb : w.cell? ⟨b, 75, none⟩ = some (.int .u64 x)) (hf : w.frozen? ⟨b, 75, none⟩ = false) (hc0 : w.cell? ⟨c, 0, none⟩ = some (.int .u64 x))
    (hc1 : w.cell? ⟨c, 1, none⟩ = some (.func (.func 36) #[] #[])) :
    Calls Try.prog 26 #[.pointer (some ⟨b, 0, none⟩), .pointer (some ⟨c, 0, none⟩)] w fun e w' => e = .returned (.tuple #[]) ∧ ∃ n, w' = (w.setCell ⟨b, 75, none⟩ (.int .u64 (IntKind.u64.wrap (x + 1)))).drewN n := by
  go_enter Try.func26, Try.ntmps26
  go_wp2
  go_quiet (fail)
  go_wp2_with (go_at_call 36; refine (c36 _).mono ?_; rintro e w' ⟨rfl, rfl⟩)
  go_end0
  exact ⟨rfl, nq, rfl⟩

end Go.Proofs.Qxb6604552a.Stale
