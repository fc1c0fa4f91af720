/-
  (Vector).hasMore, (Vector).Compare and zzAtMost, over what the maps say.
-/
import Derived.Test.Qxb6602613aWithin
namespace Go.Proofs.Qxb6602613a.Ver
open Go.RowKit
open Go.Proofs.Qxb6602613a.Mid

/-- f includes a change that g lacks. -/
def More (f g : Fn) : Prop := ∃ x a, f x = some a ∧ (g x).getD 0 < a

set_option maxRecDepth 100000 in
set_option maxHeartbeats 1000000 in
theorem c28 (B : Nat) (v1 v2 : Value) (f g : Fn) (N M : Nat) (p : Bool) (hp0 : Hid (p = true ↔ More f g)) (w : World) (hB : B ≤ w.heap.size) (h1 : Held B w v1 f N) (h2 : Held B w v2 g M) :
    Calls Try.prog 28 #[v1, v2] w fun e w' => e = .returned (.bool p) ∧ Below w.heap.size w w' := by
  have hz := zero44
  obtain ⟨s1, hs1, _⟩ := h1.tied
  go_enter Try.func28, Try.ntmps28
  go_wp2_with (first
    | (at_range; refine wpL_range rfl _ 35 rfl Try.underlying35 v1 rfl h1 s1 hs1 ?_; intro w0 hrg0 hg0 hs0)
    | go_in)
  go_frame
  go_loopw [6] (fun _ wr => ∃ (todo : List UInt8 → Bool) (cnt : Nat), Walks B wr v1 w.heap.size f N todo cnt ∧ Below w.heap.size w wr ∧ ∀ xs a, f xs = some a → todo xs = false → a ≤ (g xs).getD 0) (fun _ wr => leftIn wr v1 w.heap.size)
  case atStart => exact ⟨_, _, hrg0, below_of_grown hg0, fun xs a hf ht => by rw [hf] at ht; cases ht⟩
  case round =>
    obtain ⟨todo, cnt, hrg, hnx, hall⟩ := hrel
    go_wp2_with (first
      | (at_next; refine wpL_next rfl _ rfl v1 w.heap.size rfl hrg ?_ ?_)
      | go_in)
    · intro hc0 hl0
      go_wp2
      go_ret
      have : p = false := no_of hp0.out (fun ⟨x, a, hf, hlt⟩ => by have := hall x a hf (hl0 x); omega)
      exact ⟨by rw [this]; rfl, hnx⟩
    · intro xs c w1 cnt1 hl hwc htx hfx hrg1 hlt hg1 hs1 hen
      clear hs1
      have hnx1 : Below w.heap.size w w1 := hnx.grown hg1 hnx.size (fun j hj => by cases hj; exact Nat.le_refl _)
      have hT := laid_there w1
      have hR := laid_range w1 xs hl
      have hB1 := laid_below w1 xs
      have hnx2 : Below w.heap.size w (laid w1 xs) := hnx1.trans (hB1.mono hnx1.size)
      have hg2 := h2.below hnx2 hB
      have hrg2 := hrg1.kept (grown_of_below hB1) (fun j hj => by cases hj)
      unfold laid at hR hB1 hnx2 hg2 hrg2
      have hlk := hg2.look Try.underlying35 hl
      generalize hgx : (g xs).getD 0 = y at hlk
      by_cases hlt2 : y < c
      · have hyes : p = true := yes_of hp0.out ⟨xs, c, hfx, by rw [hgx]; exact hlt2⟩
        go_wp2_with (first
          | (with_reducible show wpList _ _ _ (⟨_, .store 44 _ _, _, _, _, _⟩ :: _) _ _; refine wpL_store rfl 44 _ _ rfl w1.heap.size 0 (u8s xs) rfl rfl (by rw [length_u8s, hl]; exact hT) (by rw [size44, length_u8s, hl]) (one_u8s xs) ?_)
          | (with_reducible show wpList _ _ _ (⟨_, .load 44 (.tmp 5), _, _, _, _⟩ :: _) _ _; refine wpL_load rfl 44 _ rfl w1.heap.size 0 rfl (u8s xs) _ hR Try.underlying44 rfl (by rw [size44, length_u8s, hl]) ?_)
          | go_in)
        go_ret
        exact ⟨by rw [hyes]; rfl, hnx2⟩
      · go_wp2_with (first
          | (with_reducible show wpList _ _ _ (⟨_, .store 44 _ _, _, _, _, _⟩ :: _) _ _; refine wpL_store rfl 44 _ _ rfl w1.heap.size 0 (u8s xs) rfl rfl (by rw [length_u8s, hl]; exact hT) (by rw [size44, length_u8s, hl]) (one_u8s xs) ?_)
          | (with_reducible show wpList _ _ _ (⟨_, .load 44 (.tmp 5), _, _, _, _⟩ :: _) _ _; refine wpL_load rfl 44 _ rfl w1.heap.size 0 rfl (u8s xs) _ hR Try.underlying44 rfl (by rw [size44, length_u8s, hl]) ?_)
          | go_in)
        go_roundw
        case rel =>
          refine ⟨_, cnt1, hrg2, hnx2, fun ys a hf ht => ?_⟩
          by_cases e : ys = xs
          · subst e
            rw [hfx] at hf
            have := Option.some.inj hf
            rw [hgx]
            omega
          · simp [e] at ht
            exact hall ys a hf ht
        case measure => rw [hrg2.left_eq, hrg.left_eq]; exact hlt

theorem c28_yes (B : Nat) (v1 v2 : Value) (f g : Fn) (N M : Nat) (w : World) (hB : B ≤ w.heap.size) (h1 : Held B w v1 f N) (h2 : Held B w v2 g M) (h : More f g) :
    Calls Try.prog 28 #[v1, v2] w fun e w' => e = .returned (.bool true) ∧ Below w.heap.size w w' :=
  c28 B v1 v2 f g N M true (show _ ↔ _ from by simp [h]) w hB h1 h2
theorem c28_no (B : Nat) (v1 v2 : Value) (f g : Fn) (N M : Nat) (w : World) (hB : B ≤ w.heap.size) (h1 : Held B w v1 f N) (h2 : Held B w v2 g M) (h : ¬ More f g) :
    Calls Try.prog 28 #[v1, v2] w fun e w' => e = .returned (.bool false) ∧ Below w.heap.size w w' :=
  c28 B v1 v2 f g N M false (show _ ↔ _ from by simp [h]) w hB h1 h2

/-- What Compare answers: Equal 0, Before 1, After 2, Concurrent 3. -/
def order (p q : Bool) : Int := if p then (if q then 3 else 2) else (if q then 1 else 0)

set_option maxRecDepth 100000 in
set_option maxHeartbeats 1000000 in
theorem c20 (B : Nat) (v1 v2 : Value) (f g : Fn) (N M : Nat) (p q : Bool) (hp : Hid (p = true ↔ More f g)) (hq : Hid (q = true ↔ More g f)) (w : World) (hB : B ≤ w.heap.size) (h1 : Held B w v1 f N) (h2 : Held B w v2 g M) :
    Calls Try.prog 20 #[v1, v2] w fun e w' => e = .returned (.int .i64 (order p q)) ∧ Below w.heap.size w w' := by
  go_enter Try.func20, Try.ntmps20
  go_wp2_with fail
  refine (c28 B v1 v2 f g N M p hp w hB h1 h2).mono ?_
  rintro e w2 ⟨rfl, hb2⟩
  go_wp2_with fail
  refine (c28 B v2 v1 g f M N q hq w2 (Nat.le_trans hB hb2.size) (h2.below hb2 hB) (h1.below hb2 hB)).mono ?_
  rintro e w3 ⟨rfl, hb3⟩
  have hend : Below w.heap.size w w3 := hb2.trans (hb3.mono hb2.size)
  cases p with
  | true =>
    cases q with
    | true =>
      go_wp2
      go_ret
      exact ⟨rfl, hend⟩
    | false =>
      go_wp2
      go_ret
      exact ⟨rfl, hend⟩
  | false =>
    cases q with
    | true =>
      go_wp2
      go_ret
      exact ⟨rfl, hend⟩
    | false =>
      go_wp2
      go_ret
      exact ⟨rfl, hend⟩

set_option maxRecDepth 100000 in
theorem c21 (p q : Bool) (w : World) : Calls Try.prog 21 #[.int .i64 (order p q)] w fun e w' => e = .returned (.bool (!p)) ∧ w = w' := by
  cases p <;> cases q <;> simp only [order, if_true, Bool.false_eq_true, if_false] <;> go_enter Try.func21, Try.ntmps21 <;> go_wp2 <;> go_ret <;> exact ⟨rfl, rfl⟩

end Go.Proofs.Qxb6602613a.Ver
