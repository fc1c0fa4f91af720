/-
  The keys seen (a map from [12]byte to bool), and the tally of distinct keys.
-/
import Derived.Test.Qxb6602613aMin
namespace Go.Proofs.Qxb6602613a.Ver
open Go.RowKit
open Go.Proofs.Qxb6602613a.Mid

abbrev Seen := List UInt8 → Bool
def Seen.add (sn : Seen) (xs : List UInt8) : Seen := fun ys => decide (ys = xs) || sn ys
def seen0 : Seen := fun _ => false

/-- Block b is a map of at most n keys; sn says which. -/
def SeenAt (w : World) (b n : Nat) (sn : Seen) : Prop :=
  ∃ D : DataW Unit, w.ownsMap Try.prog 42 (plainElem Try.prog 4) b n D ∧ ∀ xs, xs.length = 12 → D.atKey (.string xs) (.lit (.bool false)) = .lit (.bool (sn xs))

theorem plainElem_bool_inv {v : Value} {z : DataW Unit × List MemPlace} (h : plainElem Try.prog 4 v = some z) : ∃ x, v = .bool x ∧ z = (.lit (.bool x), []) := by
  unfold plainElem at h
  rw [Try.underlying4] at h
  cases v <;> simp at h
  exact ⟨_, rfl, h.symm⟩

theorem zero4 (w : World) : (zeroValue 4).run Try.prog w = .ok (.bool false) w := by kernel_rfl

theorem seen_made (w : World) : SeenAt (w.alloc (.map #[] 0)) w.heap.size 0 seen0 := ⟨.map [], World.ownsMap_made _ _ _ _, fun _ _ => rfl⟩
theorem SeenAt.kept {w w' : World} {b n : Nat} {sn : Seen} (h : SeenAt w b n sn) (hg : w.grownBy w' none) : SeenAt w' b n sn := by
  obtain ⟨D, ho, hD⟩ := h
  exact ⟨D, ho.kept hg (by simp), hD⟩
theorem SeenAt.mono {w : World} {b n n' : Nat} {sn : Seen} (h : SeenAt w b n sn) (hn : n ≤ n') : SeenAt w b n' sn := by
  obtain ⟨D, ho, hD⟩ := h
  exact ⟨D, ho.mono hn, hD⟩
theorem SeenAt.lt {w : World} {b n : Nat} {sn : Seen} (h : SeenAt w b n sn) : b < w.heap.size := by
  obtain ⟨D, ho, hD⟩ := h
  exact ho.lt

section
variable {ops : Array Oper} {rest : List Oper} {o : Oper} {a : Act} {Q : Exit → Act → World → Prop} {w : World} {b n : Nat} {sn : Seen}

theorem wpL_seen (hg : o.guard = none) (m x : Operand) (hop : o.op = Op.lookup 30 m x false) (hm : a.eval m = .map (some b)) (h : SeenAt w b n sn) (xs : List UInt8) (hl : xs.length = 12) (hx : a.eval x = kv xs) (q : Bool) (hq : sn xs = q)
    (hK : wpList Try.prog ops Q rest (a.put o.dst (.bool q)) w) : wpList Try.prog ops Q (o :: rest) a w := by
  obtain ⟨D, ho, hD⟩ := h
  refine wpList_plain hg fun K' hK' => ?_
  obtain ⟨v, ps, hrun, hv⟩ := ho.lookup K42 Try.underlying30 (zero4 w) (plainElem_bool Try.underlying4 false) (key42 xs hl)
  obtain ⟨y, rfl, hy⟩ := plainElem_bool_inv hv
  have e := (hD xs hl).symm.trans (congrArg Prod.fst hy)
  injection e with e
  injection e with e
  subst hq
  rw [e] at hK
  unfold Oper.wp
  simp [execOp, hop, hm, hx, hrun, Result.andThen]
  exact hK' _ _ hK

theorem wpL_see (hg : o.guard = none) (m x v : Operand) (hop : o.op = Op.mapUpdate 30 m x v) (hm : a.eval m = .map (some b)) (h : SeenAt w b n sn) (hn : n < maxLen) (xs : List UInt8) (hl : xs.length = 12) (hx : a.eval x = kv xs) (hv : a.eval v = .bool true)
    (hK : ∀ w', SeenAt w' b (n + 1) (sn.add xs) → w.grownBy w' (some b) → wpList Try.prog ops Q rest (a.put o.dst undef) w') : wpList Try.prog ops Q (o :: rest) a w := by
  obtain ⟨D, ho, hD⟩ := h
  refine wpList_mapUpdate_own w hg m x v 30 hop 42 4 K42 Try.underlying30 _ b n D hm ho hn _ _ (.string xs) hx hv (key42 xs hl) (.lit (.bool true)) [] (plainElem_bool Try.underlying4 true) ?_
  intro w' ho' hg'
  refine hK w' ⟨_, ho', fun ys hy => ?_⟩ hg'
  have hm : Maps.IsMap D := by
    obtain ⟨es, clock, _, _, _, e⟩ := ho
    exact ⟨_, e⟩
  unfold Seen.add
  by_cases e : ys = xs
  · subst e
    rw [Maps.atKey_put_same hm (isKey ys hy)]
    simp
  · rw [Maps.atKey_put_other (fun h => e (by injection h)), hD ys hy]
    simp [e]
end

/-- The keys of the list, not seen before, that f holds: m of them; behind it sn' is seen. -/
structure Tally (f : Fn) (sn : Seen) (ks : List (List UInt8)) (m : Nat) (sn' : Seen) : Prop where
  seen : ∀ x, sn' x = true ↔ sn x = true ∨ x ∈ ks
  list : ∃ L : List (List UInt8), L.Nodup ∧ L.length = m ∧ ∀ x, x ∈ L ↔ (sn x = false ∧ x ∈ ks ∧ (f x).isSome = true)

theorem tally_start (f : Fn) (sn : Seen) : Tally f sn [] 0 sn := ⟨fun x => by simp, [], List.nodup_nil, rfl, fun x => by simp⟩
theorem Tally.skip {f : Fn} {sn : Seen} {ks : List (List UInt8)} {m : Nat} {sn' : Seen} {x : List UInt8} (h : Tally f sn ks m sn') (hx : sn' x = true) : Tally f sn (ks ++ [x]) m sn' := by
  have hx' := (h.seen x).1 hx
  refine ⟨fun y => ?_, ?_⟩
  · rw [h.seen]
    simp only [List.mem_append, List.mem_singleton]
    constructor
    · rintro (h1 | h1)
      · exact Or.inl h1
      · exact Or.inr (Or.inl h1)
    · rintro (h1 | h1 | h1)
      · exact Or.inl h1
      · exact Or.inr h1
      · subst h1; exact hx'
  · obtain ⟨L, h1, h2, h3⟩ := h.list
    refine ⟨L, h1, h2, fun y => ?_⟩
    rw [h3]
    simp only [List.mem_append, List.mem_singleton]
    constructor
    · rintro ⟨a, b, c⟩; exact ⟨a, Or.inl b, c⟩
    · rintro ⟨a, b | b, c⟩
      · exact ⟨a, b, c⟩
      · subst b
        rcases hx' with h | h
        · rw [h] at a; cases a
        · exact ⟨a, h, c⟩
theorem Tally.miss {f : Fn} {sn : Seen} {ks : List (List UInt8)} {m : Nat} {sn' : Seen} {x : List UInt8} (h : Tally f sn ks m sn') (hf : f x = none) : Tally f sn (ks ++ [x]) m (sn'.add x) := by
  refine ⟨fun y => ?_, ?_⟩
  · simp only [Seen.add, Bool.or_eq_true, decide_eq_true_eq, h.seen, List.mem_append, List.mem_singleton]
    constructor
    · rintro (h1 | h1 | h1)
      · exact Or.inr (Or.inr h1)
      · exact Or.inl h1
      · exact Or.inr (Or.inl h1)
    · rintro (h1 | h1 | h1)
      · exact Or.inr (Or.inl h1)
      · exact Or.inr (Or.inr h1)
      · exact Or.inl h1
  · obtain ⟨L, h1, h2, h3⟩ := h.list
    refine ⟨L, h1, h2, fun y => ?_⟩
    rw [h3]
    simp only [List.mem_append, List.mem_singleton]
    constructor
    · rintro ⟨a, b, c⟩; exact ⟨a, Or.inl b, c⟩
    · rintro ⟨a, b | b, c⟩
      · exact ⟨a, b, c⟩
      · subst b; rw [hf] at c; cases c
theorem Tally.hit {f : Fn} {sn : Seen} {ks : List (List UInt8)} {m : Nat} {sn' : Seen} {x : List UInt8} {v : Int} (h : Tally f sn ks m sn') (hx : sn' x = false) (hf : f x = some v) : Tally f sn (ks ++ [x]) (m + 1) (sn'.add x) := by
  have hx1 : sn x = false := by
    cases e : sn x
    · rfl
    · have := (h.seen x).2 (Or.inl e); rw [hx] at this; cases this
  have hx2 : ¬ x ∈ ks := fun e => by
    have := (h.seen x).2 (Or.inr e); rw [hx] at this; cases this
  refine ⟨fun y => ?_, ?_⟩
  · simp only [Seen.add, Bool.or_eq_true, decide_eq_true_eq, h.seen, List.mem_append, List.mem_singleton]
    constructor
    · rintro (h1 | h1 | h1)
      · exact Or.inr (Or.inr h1)
      · exact Or.inl h1
      · exact Or.inr (Or.inl h1)
    · rintro (h1 | h1 | h1)
      · exact Or.inr (Or.inl h1)
      · exact Or.inr (Or.inr h1)
      · exact Or.inl h1
  · obtain ⟨L, h1, h2, h3⟩ := h.list
    refine ⟨x :: L, List.nodup_cons.2 ⟨fun e => hx2 ((h3 x).1 e).2.1, h1⟩, by simp [h2], fun y => ?_⟩
    simp only [List.mem_cons, List.mem_append, List.not_mem_nil, or_false, h3]
    constructor
    · rintro (e | ⟨a, b, c⟩)
      · subst e; exact ⟨hx1, Or.inr rfl, by rw [hf]; rfl⟩
      · exact ⟨a, Or.inl b, c⟩
    · rintro ⟨a, b | b, c⟩
      · exact Or.inr ⟨a, b, c⟩
      · exact Or.inl b

/-- Two tallies, the second behind the first. -/
theorem Tally.then {f : Fn} {sn sn1 sn2 : Seen} {k1 k2 : List (List UInt8)} {m1 m2 : Nat} (h1 : Tally f sn k1 m1 sn1) (h2 : Tally f sn1 k2 m2 sn2) : Tally f sn (k1 ++ k2) (m1 + m2) sn2 := by
  refine ⟨fun x => ?_, ?_⟩
  · rw [h2.seen, h1.seen, List.mem_append, or_assoc]
  · obtain ⟨L1, a1, a2, a3⟩ := h1.list
    obtain ⟨L2, b1, b2, b3⟩ := h2.list
    have key : ∀ x, sn1 x = false ↔ (sn x = false ∧ ¬ x ∈ k1) := fun x => by
      have := h1.seen x
      cases h : sn1 x <;> cases h' : sn x <;> simp [h, h'] at this ⊢ <;> assumption
    refine ⟨L1 ++ L2, List.nodup_append.2 ⟨a1, b1, fun x hx y hy e => ?_⟩, by simp [a2, b2], fun x => ?_⟩
    · subst e
      exact ((key x).1 ((b3 x).1 hy).1).2 ((a3 x).1 hx).2.1
    · rw [List.mem_append, List.mem_append, a3, b3, key]
      constructor
      · rintro (⟨p, q, r⟩ | ⟨⟨p, q⟩, r, s⟩)
        · exact ⟨p, Or.inl q, r⟩
        · exact ⟨p, Or.inr r, s⟩
      · rintro ⟨p, q | q, r⟩
        · exact Or.inl ⟨p, q, r⟩
        · by_cases e : x ∈ k1
          · exact Or.inl ⟨p, e, r⟩
          · exact Or.inr ⟨⟨p, e⟩, q, r⟩

/-- The tally of a list that has every key of f, from nothing seen, is how many f has. -/
theorem Tally.tied {f : Fn} {ks : List (List UInt8)} {m : Nat} {sn' : Seen} (h : Tally f seen0 ks m sn') (hall : ∀ x, (f x).isSome = true → x ∈ ks) : Tied f m := by
  obtain ⟨L, h1, h2, h3⟩ := h.list
  refine ⟨L, h1, h2, fun x => ?_⟩
  rw [h3]
  exact ⟨fun e => ⟨rfl, hall x e, e⟩, fun e => e.2.2⟩

end Go.Proofs.Qxb6602613a.Ver
