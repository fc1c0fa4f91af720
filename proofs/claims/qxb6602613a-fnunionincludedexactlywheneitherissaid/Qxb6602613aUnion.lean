/-
  Union, over what the maps say.
-/
import Derived.Test.Qxb6602613aWithin
namespace Go.Proofs.Qxb6602613a.Ver
open Go.RowKit
open Go.Proofs.Qxb6602613a.Mid

/-- The lesser of the two, at every key. -/
def join (f g : Fn) : Fn := fun xs => match f xs, g xs with
  | none, y => y
  | some a, none => some a
  | some a, some b => some (if b < a then b else a)

theorem c26_yes (B : Nat) (v1 v2 : Value) (f g : Fn) (N M : Nat) (w : World) (hB : B ≤ w.heap.size) (h1 : Held B w v1 f N) (h2 : Held B w v2 g M) (h : Within f g) :
    Calls Try.prog 26 #[v1, v2] w fun e w' => e = .returned (.bool true) ∧ Below w.heap.size w w' := by
  have := c26 B v1 v2 f g N M w hB h1 h2
  rw [within_yes h] at this
  exact this
theorem c26_no (B : Nat) (v1 v2 : Value) (f g : Fn) (N M : Nat) (w : World) (hB : B ≤ w.heap.size) (h1 : Held B w v1 f N) (h2 : Held B w v2 g M) (h : ¬ Within f g) :
    Calls Try.prog 26 #[v1, v2] w fun e w' => e = .returned (.bool false) ∧ Below w.heap.size w w' := by
  have := c26 B v1 v2 f g N M w hB h1 h2
  rw [within_no h] at this
  exact this

theorem card_zero {f : Fn} (h : Tied f (card f)) : card f = 0 ↔ f = nil0 := by
  constructor
  · intro h0
    rw [h0] at h
    obtain ⟨ks, _, h2, h3⟩ := h
    have : ks = [] := List.eq_nil_of_length_eq_zero h2
    subst this
    funext xs
    have := h3 xs
    cases hf : f xs
    · rfl
    · rw [hf] at this; simp at this
  · intro e
    subst e
    exact tied_nil.card

theorem within_nil (g : Fn) : Within nil0 g := fun xs a h => by cases h
theorem join_left {f g : Fn} (h : Within g f) : join f g = f := by
  funext xs
  unfold join
  cases hg : g xs with
  | none => cases f xs <;> rfl
  | some b =>
    obtain ⟨a, ha, hle⟩ := h xs b hg
    rw [ha]
    simp only
    rw [if_neg (by omega)]
theorem join_right {f g : Fn} (h : Within f g) : join f g = g := by
  funext xs
  unfold join
  cases hf : f xs with
  | none => rfl
  | some a =>
    obtain ⟨b, hb, hle⟩ := h xs a hf
    rw [hb]
    simp only
    by_cases e : b < a
    · rw [if_pos e]
    · rw [if_neg e]; congr 1; omega

/-- The union's value: it lies in the heap, says the join, and is nil where both are empty. -/
def UnionOut (w : World) (f g : Fn) (K : Nat) (e : Ending) (w' : World) : Prop :=
  ∃ v, e = .returned v ∧ Held w'.heap.size w' v (join f g) K ∧ (card f = 0 → card g = 0 → v = .map none) ∧ Below w.heap.size w w'

set_option maxRecDepth 100000 in
set_option maxHeartbeats 1000000 in
theorem c11_nil (B : Nat) (v1 v2 : Value) (f g : Fn) (N M : Nat) (w : World) (h1 : Held B w v1 f N) (h2 : Held B w v2 g M) (e1 : card f = 0) (e2 : card g = 0) :
    Calls Try.prog 11 #[v1, v2] w (UnionOut w f g (N + M)) := by
  have l1 := h1.len Try.underlying27
  have l2 := h2.len Try.underlying27
  rw [e1] at l1
  rw [e2] at l2
  have hj : join f g = nil0 := by
    rw [(card_zero h1.tied.1).1 e1, (card_zero h2.tied.1).1 e2]
    rfl
  go_enter Try.func11, Try.ntmps11
  go_wp2
  go_ret
  exact ⟨_, rfl, by rw [hj]; exact .none _ _ _, fun _ _ => rfl, Below.refl _ _⟩

set_option maxRecDepth 100000 in
set_option maxHeartbeats 1000000 in
theorem c11_left (B : Nat) (v1 v2 : Value) (f g : Fn) (N M : Nat) (w : World) (hB : B ≤ w.heap.size) (h1 : Held B w v1 f N) (h2 : Held B w v2 g M) (hw : Within g f) (e1 : card f ≠ 0) :
    Calls Try.prog 11 #[v1, v2] w (UnionOut w f g (N + M)) := by
  have l1 := h1.len Try.underlying27
  have l2 := h2.len Try.underlying27
  have e1' : ¬ ((card f : Int) = 0) := by omega
  go_enter Try.func11, Try.ntmps11
  go_wp2_with fail
  refine (c26_yes B v2 v1 g f M N w hB h2 h1 hw).mono ?_
  rintro e w2 ⟨rfl, hb⟩
  go_wp2
  go_ret
  exact ⟨_, rfl, by rw [join_left hw]; exact (h1.below hb hB).mono (Nat.le_trans hB hb.size) (by omega), fun h => absurd h e1, hb⟩

set_option maxRecDepth 100000 in
set_option maxHeartbeats 1000000 in
theorem c11_right (B : Nat) (v1 v2 : Value) (f g : Fn) (N M : Nat) (w : World) (hB : B ≤ w.heap.size) (h1 : Held B w v1 f N) (h2 : Held B w v2 g M) (hn : ¬ Within g f) (hw : Within f g) :
    Calls Try.prog 11 #[v1, v2] w (UnionOut w f g (N + M)) := by
  have l1 := h1.len Try.underlying27
  have l2 := h2.len Try.underlying27
  have e2 : card g ≠ 0 := fun h => hn (by rw [(card_zero h2.tied.1).1 h]; exact within_nil f)
  have e2' : ¬ ((card g : Int) = 0) := by omega
  by_cases e1 : card f = 0
  · rw [e1] at l1
    go_enter Try.func11, Try.ntmps11
    go_wp2_with fail
    refine (c26_no B v2 v1 g f M N w hB h2 h1 hn).mono ?_
    rintro e w2 ⟨rfl, hb⟩
    have hB2 := Nat.le_trans hB hb.size
    go_wp2_with fail
    refine (c26_yes B v1 v2 f g N M w2 hB2 (h1.below hb hB) (h2.below hb hB) hw).mono ?_
    rintro e w3 ⟨rfl, hb2⟩
    have hb3 := hb.trans (hb2.mono hb.size)
    go_wp2
    go_ret
    exact ⟨_, rfl, by rw [join_right hw]; exact (h2.below hb3 hB).mono (Nat.le_trans hB hb3.size) (by omega), fun _ h => absurd h e2, hb3⟩
  · have e1' : ¬ ((card f : Int) = 0) := by omega
    go_enter Try.func11, Try.ntmps11
    go_wp2_with fail
    refine (c26_no B v2 v1 g f M N w hB h2 h1 hn).mono ?_
    rintro e w2 ⟨rfl, hb⟩
    have hB2 := Nat.le_trans hB hb.size
    go_wp2_with fail
    refine (c26_yes B v1 v2 f g N M w2 hB2 (h1.below hb hB) (h2.below hb hB) hw).mono ?_
    rintro e w3 ⟨rfl, hb2⟩
    have hb3 := hb.trans (hb2.mono hb.size)
    go_wp2
    go_ret
    exact ⟨_, rfl, by rw [join_right hw]; exact (h2.below hb3 hB).mono (Nat.le_trans hB hb3.size) (by omega), fun _ h => absurd h e2, hb3⟩

end Go.Proofs.Qxb6602613a.Ver
