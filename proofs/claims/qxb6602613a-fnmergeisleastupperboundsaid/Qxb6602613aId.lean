/-
  zzID and ZZIDFromArray: twelve bytes to an ID of the same cells.
-/
import Derived.Test.Qxb6602613aLaws
import Derived.Test.Qxb6602613aTake
import Derived.Deep.Cut
namespace Go.Proofs.Qxb6602613a.Ver
open Go.RowKit
open Go.Proofs.Qxb6602613a.Mid

def z44 : List Value := List.replicate 12 (.int .u8 0)
theorem zero44 (w : World) : (zeroValue 44).run Try.prog w = .ok (.agg z44.toArray) w := by kernel_rfl
theorem length_z44 : z44.length = 12 := by kernel_rfl
theorem size42 : (Try.prog.info? 42).map (·.size) = some 12 := by kernel_rfl
theorem size44 : (Try.prog.info? 44).map (·.size) = some 12 := by kernel_rfl

theorem build44 (w : World) (xs : List UInt8) (hl : xs.length = 12) : (Instr.build 44 #[(0, kv xs)]).run Try.prog w = .ok (kv xs) w := by
  refine build_run 44 _ _ _ #[(0, 12)] _ (zero44 w) Try.underlying44 (by kernel_rfl) ?_
  have e1 := fill_next (#[(0, 12)][·]?) [] (u8s xs) z44 0 (kv xs) [] (by simp [length_u8s, hl]) rfl (by simp [length_u8s, hl, length_z44])
  show Instr.fill _ z44.toArray _ = _
  rw [show z44 = [] ++ z44 from rfl, e1, Instr.fill]
  simp [length_u8s, hl, length_z44]

set_option maxRecDepth 100000 in
set_option maxHeartbeats 400000 in
theorem c29 (xs : List UInt8) (hl : xs.length = 12) (w : World) :
    Calls Try.prog 29 #[kv xs] w fun e w' => e = .returned (kv xs) ∧ Below w.heap.size w w' := by
  have hz := zero44
  have hp : ((w.alloc (.cells (u8s xs).toArray 42)).alloc (.cells z44.toArray 44)).rangeAt w.heap.size 0 (u8s xs) := World.rangeAt_alloc (rangeAt_new _ _ _) _
  have ht : ((w.alloc (.cells (u8s xs).toArray 42)).alloc (.cells z44.toArray 44)).there (w.heap.size + 1) 0 12 := by
    have := there_new (w.alloc (.cells (u8s xs).toArray 42)) z44.toArray 44
    simpa [length_z44] using this
  go_enter Try.func29, Try.ntmps29
  go_wp2_with (first
    | (with_reducible show wpList _ _ _ (⟨_, .load 42 (.tmp 1), _, _, _, _⟩ :: _) _ _; refine wpL_load rfl 42 _ rfl w.heap.size 0 rfl (u8s xs) _ hp Try.underlying42 rfl (by rw [size42, length_u8s, hl]) ?_)
    | (with_reducible show wpList _ _ _ (⟨_, .build 44 _, _, _, _, _⟩ :: _) _ _; refine wpL_build rfl 44 [(0, .tmp 3)] rfl [(0, kv xs)] rfl _ (build44 _ xs hl) ?_)
    | (with_reducible show wpList _ _ _ (⟨_, .store 44 _ _, _, _, _, _⟩ :: _) _ _; refine wpL_store rfl 44 _ _ rfl (w.heap.size + 1) 0 (u8s xs) rfl rfl (by rw [length_u8s, hl]; exact ht) (by rw [size44, length_u8s, hl]) (one_u8s xs) ?_))
  refine bodyPost_ret (v := kv xs) ?_ rfl ⟨rfl, ?_⟩
  · exact results_mid1 Try.results29 _ _ (w.heap.size + 1) 0 (u8s xs) _ rfl (World.rangeAt_setCells_same _ _ _ _ (by rw [length_u8s, hl]; exact ht)) Try.underlying44 rfl (by rw [size44, length_u8s, hl])
  · exact below_setCells _ (by omega) _ _ _ (((Below.refl _ _).alloc (Nat.le_refl _) _).alloc (by simp) _)

set_option maxRecDepth 100000 in
set_option maxHeartbeats 400000 in
theorem c25 (xs : List UInt8) (hl : xs.length = 12) (w : World) :
    Calls Try.prog 25 #[kv xs] w fun e w' => e = .returned (kv xs) ∧ Below w.heap.size w w' := by
  have hz := zero44
  have hp : ((w.alloc (.cells (u8s xs).toArray 42)).alloc (.cells z44.toArray 44)).rangeAt w.heap.size 0 (u8s xs) := World.rangeAt_alloc (rangeAt_new _ _ _) _
  have ht : ((w.alloc (.cells (u8s xs).toArray 42)).alloc (.cells z44.toArray 44)).there (w.heap.size + 1) 0 12 := by
    have := there_new (w.alloc (.cells (u8s xs).toArray 42)) z44.toArray 44
    simpa [length_z44] using this
  have hB : Below w.heap.size w ((w.alloc (.cells (u8s xs).toArray 42)).alloc (.cells z44.toArray 44)) := ((Below.refl _ _).alloc (Nat.le_refl _) _).alloc (by simp) _
  have hs : ((w.alloc (.cells (u8s xs).toArray 42)).alloc (.cells z44.toArray 44)).heap.size = w.heap.size + 2 := by simp
  go_enter Try.func25, Try.ntmps25
  go_wp2_with (first
    | (with_reducible show wpList _ _ _ (⟨_, .load 42 (.tmp 1), _, _, _, _⟩ :: _) _ _; refine wpL_load rfl 42 _ rfl w.heap.size 0 rfl (u8s xs) _ hp Try.underlying42 rfl (by rw [size42, length_u8s, hl]) ?_)
    | fail)
  generalize hw : (w.alloc (.cells (u8s xs).toArray 42)).alloc (.cells z44.toArray 44) = w1 at *
  clear hw
  refine (c29 xs hl w1).mono ?_
  rintro e w2 ⟨rfl, hb⟩
  have ht2 := there_below hb (by omega) ht
  go_wp2_with (first
    | (with_reducible show wpList _ _ _ (⟨_, .store 44 _ _, _, _, _, _⟩ :: _) _ _; refine wpL_store rfl 44 _ _ rfl (w.heap.size + 1) 0 (u8s xs) rfl rfl (by rw [length_u8s, hl]; exact ht2) (by rw [size44, length_u8s, hl]) (one_u8s xs) ?_))
  refine bodyPost_ret (v := kv xs) ?_ rfl ⟨rfl, ?_⟩
  · exact results_mid1 Try.results25 _ _ (w.heap.size + 1) 0 (u8s xs) _ rfl (World.rangeAt_setCells_same _ _ _ _ (by rw [length_u8s, hl]; exact ht2)) Try.underlying44 rfl (by rw [size44, length_u8s, hl])
  · exact below_setCells _ (by omega) _ _ _ (hB.trans (hb.mono (by omega)))

end Go.Proofs.Qxb6602613a.Ver
