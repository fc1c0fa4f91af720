/-
  Union, over what the maps say.
-/
import Derived.Test.Qxb6602613aWithin
namespace Go.Proofs.Qxb6602613a.Ver
open Go.RowKit
open Go.Proofs.Qxb6602613a.Mid

/-- The lesser of the two, at every key. -/
def join (f g : Fn) : Fn := fun xs => match f xs, g xs with
  | none, y => y
  | some a, none => some a
  | some a, some b => some (if b < a then b else a)

theorem c26_yes (B : Nat) (v1 v2 : Value) (f g : Fn) (N M : Nat) (w : World) (hB : B ≤ w.heap.size) (h1 : Held B w v1 f N) (h2 : Held B w v2 g M) (h : Within f g) :
    Calls Try.prog 26 #[v1, v2] w fun e w' => e = .returned (.bool true) ∧ Below w.heap.size w w' := by
  exact c26 B v1 v2 f g N M true (show _ ↔ _ from by simp [h]) w hB h1 h2
theorem c26_no (B : Nat) (v1 v2 : Value) (f g : Fn) (N M : Nat) (w : World) (hB : B ≤ w.heap.size) (h1 : Held B w v1 f N) (h2 : Held B w v2 g M) (h : ¬ Within f g) :
    Calls Try.prog 26 #[v1, v2] w fun e w' => e = .returned (.bool false) ∧ Below w.heap.size w w' := by
  exact c26 B v1 v2 f g N M false (show _ ↔ _ from by simp [h]) w hB h1 h2

theorem within_nil (g : Fn) : Within nil0 g := fun xs a h => by cases h
theorem join_left {f g : Fn} (h : Within g f) : join f g = f := by
  funext xs
  unfold join
  cases hg : g xs with
  | none => cases f xs <;> rfl
  | some b =>
    obtain ⟨a, ha, hle⟩ := h xs b hg
    rw [ha]
    simp only
    rw [if_neg (by omega)]
theorem join_right {f g : Fn} (h : Within f g) : join f g = g := by
  funext xs
  unfold join
  cases hf : f xs with
  | none => rfl
  | some a =>
    obtain ⟨b, hb, hle⟩ := h xs a hf
    rw [hb]
    simp only
    by_cases e : b < a
    · rw [if_pos e]
    · rw [if_neg e]; congr 1; omega

/-- The union's value: it lies in the heap, says the join, and is nil where both are empty. -/
def UnionOut (w : World) (f g : Fn) (K : Nat) (e : Ending) (w' : World) : Prop :=
  ∃ v, e = .returned v ∧ Held w'.heap.size w' v (join f g) K ∧ (f = nil0 → g = nil0 → v = .map none) ∧ Below w.heap.size w w'

set_option maxRecDepth 100000 in
set_option maxHeartbeats 1000000 in
theorem c11_nil (B : Nat) (v1 v2 : Value) (f g : Fn) (N M : Nat) (w : World) (h1 : Held B w v1 f N) (h2 : Held B w v2 g M) (e1 : f = nil0) (e2 : g = nil0) :
    Calls Try.prog 11 #[v1, v2] w (UnionOut w f g (N + M)) := by
  have l1 := h1.len (s := 0) (by rw [e1]; exact tied_nil) Try.underlying27
  have l2 := h2.len (s := 0) (by rw [e2]; exact tied_nil) Try.underlying27
  have hj : join f g = nil0 := by
    rw [e1, e2]
    rfl
  go_enter Try.func11, Try.ntmps11
  go_wp2
  go_ret
  exact ⟨_, rfl, by rw [hj]; exact .none _ _ _, fun _ _ => rfl, Below.refl _ _⟩

set_option maxRecDepth 100000 in
set_option maxHeartbeats 1000000 in
theorem c11_left (B : Nat) (v1 v2 : Value) (f g : Fn) (N M : Nat) (w : World) (hB : B ≤ w.heap.size) (h1 : Held B w v1 f N) (h2 : Held B w v2 g M) (hw : Within g f) (e1 : f ≠ nil0) :
    Calls Try.prog 11 #[v1, v2] w (UnionOut w f g (N + M)) := by
  obtain ⟨s1, t1, _⟩ := h1.tied
  obtain ⟨s2, t2, _⟩ := h2.tied
  have l1 := h1.len t1 Try.underlying27
  have l2 := h2.len t2 Try.underlying27
  have e0 : s1 ≠ 0 := fun h => e1 ((tied_zero t1).1 h)
  have e1' : ¬ ((s1 : Int) = 0) := by omega
  go_enter Try.func11, Try.ntmps11
  go_wp2_with fail
  refine (c26_yes B v2 v1 g f M N w hB h2 h1 hw).mono ?_
  rintro e w2 ⟨rfl, hb⟩
  go_wp2
  go_ret
  exact ⟨_, rfl, by rw [join_left hw]; exact (h1.below hb hB).mono (Nat.le_trans hB hb.size) (by omega), fun h => absurd h e1, hb⟩

set_option maxRecDepth 100000 in
set_option maxHeartbeats 1000000 in
theorem c11_right (B : Nat) (v1 v2 : Value) (f g : Fn) (N M : Nat) (w : World) (hB : B ≤ w.heap.size) (h1 : Held B w v1 f N) (h2 : Held B w v2 g M) (hn : ¬ Within g f) (hw : Within f g) :
    Calls Try.prog 11 #[v1, v2] w (UnionOut w f g (N + M)) := by
  obtain ⟨s1, t1, _⟩ := h1.tied
  obtain ⟨s2, t2, _⟩ := h2.tied
  have l1 := h1.len t1 Try.underlying27
  have l2 := h2.len t2 Try.underlying27
  have e2 : g ≠ nil0 := fun h => hn (by rw [h]; exact within_nil f)
  have e0 : s2 ≠ 0 := fun h => e2 ((tied_zero t2).1 h)
  have e2' : ¬ ((s2 : Int) = 0) := by omega
  by_cases e1 : s1 = 0
  · rw [e1] at l1
    go_enter Try.func11, Try.ntmps11
    go_wp2_with fail
    refine (c26_no B v2 v1 g f M N w hB h2 h1 hn).mono ?_
    rintro e w2 ⟨rfl, hb⟩
    have hB2 := Nat.le_trans hB hb.size
    go_wp2_with fail
    refine (c26_yes B v1 v2 f g N M w2 hB2 (h1.below hb hB) (h2.below hb hB) hw).mono ?_
    rintro e w3 ⟨rfl, hb2⟩
    have hb3 := hb.trans (hb2.mono hb.size)
    go_wp2
    go_ret
    exact ⟨_, rfl, by rw [join_right hw]; exact (h2.below hb3 hB).mono (Nat.le_trans hB hb3.size) (by omega), fun _ h => absurd h e2, hb3⟩
  · have e1' : ¬ ((s1 : Int) = 0) := by omega
    go_enter Try.func11, Try.ntmps11
    go_wp2_with fail
    refine (c26_no B v2 v1 g f M N w hB h2 h1 hn).mono ?_
    rintro e w2 ⟨rfl, hb⟩
    have hB2 := Nat.le_trans hB hb.size
    go_wp2_with fail
    refine (c26_yes B v1 v2 f g N M w2 hB2 (h1.below hb hB) (h2.below hb hB) hw).mono ?_
    rintro e w3 ⟨rfl, hb2⟩
    have hb3 := hb.trans (hb2.mono hb.size)
    go_wp2
    go_ret
    exact ⟨_, rfl, by rw [join_right hw]; exact (h2.below hb3 hB).mono (Nat.le_trans hB hb3.size) (by omega), fun _ h => absurd h e2, hb3⟩

end Go.Proofs.Qxb6602613a.Ver
