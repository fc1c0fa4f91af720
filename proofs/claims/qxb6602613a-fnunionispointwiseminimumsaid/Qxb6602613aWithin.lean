/-
  (Changes).within and (Vector).hasMore, over what the maps say.
-/
import Derived.Test.Qxb6602613aId
namespace Go.Proofs.Qxb6602613a.Ver
open Go.RowKit
open Go.Proofs.Qxb6602613a.Mid

def Within (f g : Fn) : Prop := ∀ xs a, f xs = some a → ∃ b, g xs = some b ∧ b ≤ a
theorem yes_of {p : Bool} {q : Prop} (hp : p = true ↔ q) (h : q) : p = true := hp.2 h
theorem no_of {p : Bool} {q : Prop} (hp : p = true ↔ q) (h : ¬ q) : p = false := by
  cases p
  · rfl
  · exact absurd (hp.1 rfl) h
/-- Every statement has its bool. -/
theorem bool_of (q : Prop) : ∃ p : Bool, p = true ↔ q := by
  by_cases h : q
  · exact ⟨true, by simp [h]⟩
  · exact ⟨false, by simp [h]⟩

/-- The variable of a round: a new block of twelve cells, the key laid into it. -/
def laid (w : World) (xs : List UInt8) : World := (w.alloc (.cells z44.toArray 44)).setCells w.heap.size 0 (u8s xs)
theorem laid_there (w : World) : (w.alloc (.cells z44.toArray 44)).there w.heap.size 0 12 := by
  have := there_new w z44.toArray 44
  simpa [length_z44] using this
theorem laid_below (w : World) (xs : List UInt8) : Below w.heap.size w (laid w xs) := below_setCells _ (Nat.le_refl _) _ _ _ ((Below.refl _ _).alloc (Nat.le_refl _) _)
theorem laid_range (w : World) (xs : List UInt8) (hl : xs.length = 12) : (laid w xs).rangeAt w.heap.size 0 (u8s xs) :=
  World.rangeAt_setCells_same _ _ _ _ (by rw [length_u8s, hl]; exact laid_there w)

set_option maxRecDepth 100000 in
set_option maxHeartbeats 1000000 in
theorem c26 (B : Nat) (v1 v2 : Value) (f g : Fn) (N M : Nat) (p : Bool) (hp0 : Hid (p = true ↔ Within f g)) (w : World) (hB : B ≤ w.heap.size) (h1 : Held B w v1 f N) (h2 : Held B w v2 g M) :
    Calls Try.prog 26 #[v1, v2] w fun e w' => e = .returned (.bool p) ∧ Below w.heap.size w w' := by
  have hz := zero44
  obtain ⟨s1, hs1, _⟩ := h1.tied
  go_enter Try.func26, Try.ntmps26
  go_wp2_with (first
    | (at_range; refine wpL_range rfl _ 27 rfl Try.underlying27 v1 rfl h1 s1 hs1 ?_; intro w0 hrg0 hg0 hs0)
    | go_in)
  go_frame
  go_loopw [6] (fun _ wr => ∃ (todo : List UInt8 → Bool) (cnt : Nat), Walks B wr v1 w.heap.size f N todo cnt ∧ Below w.heap.size w wr ∧ ∀ xs a, f xs = some a → todo xs = false → ∃ b, g xs = some b ∧ b ≤ a) (fun _ wr => leftIn wr v1 w.heap.size)
  case atStart => exact ⟨_, _, hrg0, below_of_grown hg0, fun xs a hf ht => by rw [hf] at ht; cases ht⟩
  case round =>
    obtain ⟨todo, cnt, hrg, hnx, hall⟩ := hrel
    go_wp2_with (first
      | (at_next; refine wpL_next rfl _ rfl v1 w.heap.size rfl hrg ?_ ?_)
      | go_in)
    · intro hc0 hl0
      go_wp2
      go_ret
      have : p = true := yes_of hp0.out (fun xs a hf => hall xs a hf (hl0 xs))
      exact ⟨by rw [this]; rfl, hnx⟩
    · intro xs c w1 cnt1 hl hwc htx hfx hrg1 hlt hg1 hs1 hen
      clear hs1
      have hnx1 : Below w.heap.size w w1 := hnx.grown hg1 hnx.size (fun j hj => by cases hj; exact Nat.le_refl _)
      have hT := laid_there w1
      have hR := laid_range w1 xs hl
      have hB1 := laid_below w1 xs
      have hnx2 : Below w.heap.size w (laid w1 xs) := hnx1.trans (hB1.mono hnx1.size)
      have hg2 := h2.below hnx2 hB
      have hrg2 := hrg1.kept (grown_of_below hB1) (fun j hj => by cases hj)
      unfold laid at hR hB1 hnx2 hg2 hrg2
      cases hgx : g xs with
      | none =>
        have hno : p = false := by
          refine no_of hp0.out (fun h => ?_)
          obtain ⟨b, hb, _⟩ := h xs c hfx
          rw [hgx] at hb
          cases hb
        go_wp2_with (first
          | (with_reducible show wpList _ _ _ (⟨_, .store 44 _ _, _, _, _, _⟩ :: _) _ _; refine wpL_store rfl 44 _ _ rfl w1.heap.size 0 (u8s xs) rfl rfl (by rw [length_u8s, hl]; exact hT) (by rw [size44, length_u8s, hl]) (one_u8s xs) ?_)
          | (with_reducible show wpList _ _ _ (⟨_, .load 44 (.tmp 5), _, _, _, _⟩ :: _) _ _; refine wpL_load rfl 44 _ rfl w1.heap.size 0 rfl (u8s xs) _ hR Try.underlying44 rfl (by rw [size44, length_u8s, hl]) ?_)
          | (at_lookup; refine wpL_look_none rfl _ _ 27 rfl Try.underlying27 v2 rfl hg2 xs hl rfl hgx ?_)
          | go_in)
        go_ret
        exact ⟨by rw [hno]; rfl, hnx2⟩
      | some b =>
        by_cases hlt2 : c < b
        · have hno : p = false := by
            refine no_of hp0.out (fun h => ?_)
            obtain ⟨b', hb, hle⟩ := h xs c hfx
            rw [hgx] at hb
            cases hb
            omega
          go_wp2_with (first
            | (with_reducible show wpList _ _ _ (⟨_, .store 44 _ _, _, _, _, _⟩ :: _) _ _; refine wpL_store rfl 44 _ _ rfl w1.heap.size 0 (u8s xs) rfl rfl (by rw [length_u8s, hl]; exact hT) (by rw [size44, length_u8s, hl]) (one_u8s xs) ?_)
            | (with_reducible show wpList _ _ _ (⟨_, .load 44 (.tmp 5), _, _, _, _⟩ :: _) _ _; refine wpL_load rfl 44 _ rfl w1.heap.size 0 rfl (u8s xs) _ hR Try.underlying44 rfl (by rw [size44, length_u8s, hl]) ?_)
            | (at_lookup; refine wpL_look_some rfl _ _ 27 rfl Try.underlying27 v2 rfl hg2 xs hl rfl b hgx ?_)
            | go_in)
          go_ret
          exact ⟨by rw [hno]; rfl, hnx2⟩
        · go_wp2_with (first
            | (with_reducible show wpList _ _ _ (⟨_, .store 44 _ _, _, _, _, _⟩ :: _) _ _; refine wpL_store rfl 44 _ _ rfl w1.heap.size 0 (u8s xs) rfl rfl (by rw [length_u8s, hl]; exact hT) (by rw [size44, length_u8s, hl]) (one_u8s xs) ?_)
            | (with_reducible show wpList _ _ _ (⟨_, .load 44 (.tmp 5), _, _, _, _⟩ :: _) _ _; refine wpL_load rfl 44 _ rfl w1.heap.size 0 rfl (u8s xs) _ hR Try.underlying44 rfl (by rw [size44, length_u8s, hl]) ?_)
            | (at_lookup; refine wpL_look_some rfl _ _ 27 rfl Try.underlying27 v2 rfl hg2 xs hl rfl b hgx ?_)
            | go_in)
          go_roundw
          case rel =>
            refine ⟨_, cnt1, hrg2, hnx2, fun ys a hf ht => ?_⟩
            by_cases e : ys = xs
            · subst e
              rw [hfx] at hf
              cases hf
              exact ⟨b, hgx, by omega⟩
            · simp [e] at ht
              exact hall ys a hf ht
          case measure => rw [hrg2.left_eq, hrg.left_eq]; exact hlt

end Go.Proofs.Qxb6602613a.Ver
