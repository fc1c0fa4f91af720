/-
  The operations on maps from replica.ID to uint64, by what the map says.
-/
import Derived.Test.Qxb6602613aHeld
import Derived.Maps.RangeWalk
namespace Go.Proofs.Qxb6602613a.Ver
open Go.RowKit
open Go.Proofs.Qxb6602613a.Mid
open Go.Maps (Keyed)
open Go.ChangeMaps Go.MapKept Go.WideMaps Go.WideShapes

/-- The value v is a map that lies below block B, has at most N entries, and says f. -/
def Held (B : Nat) (w : World) (v : Value) (f : Fn) (N : Nat) : Prop :=
  (v = .map none ∧ f = nil0) ∨ ∃ b D, v = .map (some b) ∧ b < B ∧ Own w b N D ∧ f = view D

theorem Held.none (B : Nat) (w : World) (N : Nat) : Held B w (.map .none) nil0 N := .inl ⟨rfl, rfl⟩
theorem Held.mono {B B' : Nat} {w : World} {v : Value} {f : Fn} {N N' : Nat} (h : Held B w v f N) (hB : B ≤ B') (hN : N ≤ N') : Held B' w v f N' := by
  rcases h with h | ⟨b, D, e, hb, ho, hf⟩
  · exact .inl h
  · exact .inr ⟨b, D, e, Nat.lt_of_lt_of_le hb hB, World.ownsMap.mono ho hN, hf⟩
theorem Held.below {B B' : Nat} {w w' : World} {v : Value} {f : Fn} {N : Nat} (h : Held B w v f N) (hb : Below B' w w') (hB : B ≤ B') : Held B w' v f N := by
  rcases h with h | ⟨b, D, e, hlt, ⟨es, clock, h1, h2⟩, hf⟩
  · exact .inl h
  · exact .inr ⟨b, D, e, hlt, ⟨es, clock, (hb.block b (Nat.lt_of_lt_of_le hlt hB)).trans h1, h2⟩, hf⟩

theorem zero41 (w : World) : (zeroValue 41).run Try.prog w = .ok (.int .u64 0) w := by kernel_rfl

theorem atKey_view {D : DataW Unit} {xs : List UInt8} {c : Int} (h : D.atKey (.string xs) (.lit (.int .u64 0)) = .lit (.int .u64 c)) : c = (view D xs).getD 0 ∧ Maps.has D (.string xs) = (view D xs).isSome := by
  unfold view
  cases hh : Maps.has D (.string xs)
  · have e := Maps.atKey_of_not_has hh (.lit (.int .u64 0))
    rw [h] at e
    injection e with e
    injection e with _ e
    simp [e]
  · simp [h, num]

section
variable {B : Nat} {w : World} {v : Value} {f : Fn} {N : Nat}

theorem Held.look_ok {t : TypeId} (h : Held B w v f N) (ht : Try.prog.underlying t = some (.map 44 41)) {xs : List UInt8} (hl : xs.length = 12) :
    (Instr.lookup t v (kv xs) true).run Try.prog w = .ok (.tuple #[.int .u64 ((f xs).getD 0), .bool (f xs).isSome]) w := by
  rcases h with ⟨rfl, rfl⟩ | ⟨b, D, rfl, hb, ho, rfl⟩
  · simpa [nil0] using Maps.look_nil (w := w) true K44 ht (zero41 w) (key44 xs hl)
  · obtain ⟨v, ps, hrun, hv⟩ := World.ownsMap.look_ok ho K44 ht (zero41 w) (plainElem_int Try.underlying41 (by decide)) (key44 xs hl)
    obtain ⟨c, rfl, hc, hwc⟩ := plainElem_int_inv Try.underlying41 hv
    obtain ⟨e1, e2⟩ := atKey_view (congrArg Prod.fst hc)
    rw [hrun, e2, e1]

theorem Held.look {t : TypeId} (h : Held B w v f N) (ht : Try.prog.underlying t = some (.map 44 41)) {xs : List UInt8} (hl : xs.length = 12) :
    (Instr.lookup t v (kv xs) false).run Try.prog w = .ok (.int .u64 ((f xs).getD 0)) w := by
  rcases h with ⟨rfl, rfl⟩ | ⟨b, D, rfl, hb, ho, rfl⟩
  · simpa [nil0] using Maps.look_nil (w := w) false K44 ht (zero41 w) (key44 xs hl)
  · obtain ⟨c, hrun, hc, hwc⟩ := World.ownsMap.lookup_int ho K44 ht Try.underlying41 (zero41 w) (key44 xs hl)
    obtain ⟨e1, e2⟩ := atKey_view hc
    rw [hrun, e1]

theorem Held.tied (h : Held B w v f N) : ∃ s, Tied f s ∧ s ≤ N := by
  rcases h with ⟨rfl, rfl⟩ | ⟨b, D, rfl, hb, ho, rfl⟩
  · exact ⟨0, tied_nil, Nat.zero_le _⟩
  · exact ⟨_, Own.tied ho, World.ownsMap.size_le ho⟩

theorem Held.len {t : TypeId} {s : Nat} (h : Held B w v f N) (hs : Tied f s) (ht : Try.prog.underlying t = some (.map 44 41)) (ty : TypeId) : (Builtin.len_ #[t] ty #[v]).run Try.prog w = .ok (.int .i64 s) w := by
  rcases h with ⟨rfl, rfl⟩ | ⟨b, D, rfl, hb, ho, rfl⟩
  · rw [hs.one tied_nil]; exact Maps.len_nil ht ty
  · rw [hs.one (Own.tied ho)]; exact World.ownsMap.len ho ht ty

/-- A map's numbers are numbers. -/
theorem Held.wf (h : Held B w v f N) {xs : List UInt8} (hl : xs.length = 12) : (Lit.int .u64 ((f xs).getD 0)).wf = true := by
  rcases h with ⟨rfl, rfl⟩ | ⟨b, D, rfl, hb, ho, rfl⟩
  · exact (by decide : (Lit.int .u64 0).wf = true)
  · obtain ⟨c, hrun, hc, hwc⟩ := World.ownsMap.lookup_int ho K44 Try.underlying27 Try.underlying41 (zero41 w) (key44 xs hl)
    obtain ⟨e1, e2⟩ := atKey_view hc
    rw [← e1]; exact hwc
end

section
variable {ops : Array Oper} {rest : List Oper} {o : Oper} {a : Act} {Q : Exit → Act → World → Prop} {B : Nat} {w : World} {f : Fn} {N : Nat}

theorem wpL_look_ok (hg : o.guard = none) (m x : Operand) (t : TypeId) (hop : o.op = Op.lookup t m x true) (ht : Try.prog.underlying t = some (.map 44 41)) (v : Value) (hm : a.eval m = v) (h : Held B w v f N)
    (xs : List UInt8) (hl : xs.length = 12) (hx : a.eval x = kv xs)
    (hK : wpList Try.prog ops Q rest (a.put o.dst (.tuple #[.int .u64 ((f xs).getD 0), .bool (f xs).isSome])) w) : wpList Try.prog ops Q (o :: rest) a w := by
  refine wpList_plain hg fun K' hK' => ?_
  unfold Oper.wp
  simp [execOp, hop, hm, hx, h.look_ok ht hl, Result.andThen]
  exact hK' _ _ hK

theorem wpL_look (hg : o.guard = none) (m x : Operand) (t : TypeId) (hop : o.op = Op.lookup t m x false) (ht : Try.prog.underlying t = some (.map 44 41)) (v : Value) (hm : a.eval m = v) (h : Held B w v f N)
    (xs : List UInt8) (hl : xs.length = 12) (hx : a.eval x = kv xs)
    (hK : wpList Try.prog ops Q rest (a.put o.dst (.int .u64 ((f xs).getD 0))) w) : wpList Try.prog ops Q (o :: rest) a w := by
  refine wpList_plain hg fun K' hK' => ?_
  unfold Oper.wp
  simp [execOp, hop, hm, hx, h.look ht hl, Result.andThen]
  exact hK' _ _ hK

theorem wpL_look_some (hg : o.guard = none) (m x : Operand) (t : TypeId) (hop : o.op = Op.lookup t m x true) (ht : Try.prog.underlying t = some (.map 44 41)) (v : Value) (hm : a.eval m = v) (h : Held B w v f N)
    (xs : List UInt8) (hl : xs.length = 12) (hx : a.eval x = kv xs) (b : Int) (hf : f xs = some b)
    (hK : wpList Try.prog ops Q rest (a.put o.dst (.tuple #[.int .u64 b, .bool true])) w) : wpList Try.prog ops Q (o :: rest) a w :=
  wpL_look_ok hg m x t hop ht v hm h xs hl hx (by rw [hf]; exact hK)
theorem wpL_look_none (hg : o.guard = none) (m x : Operand) (t : TypeId) (hop : o.op = Op.lookup t m x true) (ht : Try.prog.underlying t = some (.map 44 41)) (v : Value) (hm : a.eval m = v) (h : Held B w v f N)
    (xs : List UInt8) (hl : xs.length = 12) (hx : a.eval x = kv xs) (hf : f xs = none)
    (hK : wpList Try.prog ops Q rest (a.put o.dst (.tuple #[.int .u64 0, .bool false])) w) : wpList Try.prog ops Q (o :: rest) a w :=
  wpL_look_ok hg m x t hop ht v hm h xs hl hx (by rw [hf]; exact hK)

theorem run_makeMap_some (t k e : TypeId) (n : Int) (q : IntKind) (w : World) (ht : Try.prog.underlying t = some (.map k e)) : (Instr.makeMap t (some (.int q n))).run Try.prog w = .ok (.map (some w.heap.size)) (w.alloc (.map #[] 0)) := by
  simp [Instr.makeMap, run_underlying ht, asInt, asIntOf, Result.andThen]

end

/-! ### 'for id, n := range m' under way -/
/-- The iterator in block r walks over the map v, which says f; the keys that are still to come: todo; how many: cnt. -/
def Walks (B : Nat) (w : World) (v : Value) (r : Nat) (f : Fn) (N : Nat) (todo : List UInt8 → Bool) (cnt : Nat) : Prop :=
  (v = .map none ∧ (∃ s seen c, w.heap[r]? = some (.mapIter none s seen c)) ∧ f = nil0 ∧ (∀ xs, todo xs = false) ∧ cnt = 0) ∨
  ∃ b D left, v = .map (some b) ∧ b < B ∧ w.ranges Try.prog 44 (plainElem (H := Unit) Try.prog 41) b r N D left cnt ∧ f = view D ∧ ∀ xs, left (.string xs) = todo xs

def leftIn (w : World) (v : Value) (r : Nat) : Nat := match v with | .map (some b) => w.rangeLeft b r | _ => 0

section
variable {B : Nat} {w : World} {v : Value} {r : Nat} {f : Fn} {N : Nat} {todo : List UInt8 → Bool} {cnt : Nat}

theorem Walks.left_eq (h : Walks B w v r f N todo cnt) : leftIn w v r = cnt := by
  rcases h with ⟨rfl, _, _, _, rfl⟩ | ⟨b, D, left, rfl, _, h, _⟩
  · rfl
  · exact h.left_eq
theorem Walks.held (h : Walks B w v r f N todo cnt) : Held B w v f N := by
  rcases h with ⟨rfl, _, rfl, _, rfl⟩ | ⟨b, D, left, rfl, hb, h, rfl, _⟩
  · exact .none _ _ _
  · exact .inr ⟨b, D, rfl, hb, h.owns, rfl⟩
theorem Walks.kept {w' : World} {row : Option Nat} (h : Walks B w v r f N todo cnt) (hg : w.grownBy w' row) (hr : ∀ j, row = some j → B ≤ j ∧ j ≠ r) : Walks B w' v r f N todo cnt := by
  have hrr : some r ≠ row := fun e => (hr r e.symm).2 rfl
  rcases h with ⟨e, ⟨s, seen, c, hs⟩, hf⟩ | ⟨b, D, left, e, hb, h, hf⟩
  · exact .inl ⟨e, ⟨s, seen, c, (hg.block r (Array.getElem?_eq_some_iff.1 hs).1 hrr).trans hs⟩, hf⟩
  · exact .inr ⟨b, D, left, e, hb, h.kept hg (fun e => by have := (hr b e.symm).1; omega) hrr, hf⟩
theorem Walks.lt (h : Walks B w v r f N todo cnt) : r < w.heap.size := by
  rcases h with ⟨_, ⟨s, seen, c, hs⟩, _⟩ | ⟨b, D, left, _, _, h, _⟩
  · exact (Array.getElem?_eq_some_iff.1 hs).1
  · exact h.lt

theorem has_view (D : DataW Unit) (xs : List UInt8) : Maps.has D (.string xs) = (view D xs).isSome := by
  unfold view
  cases Maps.has D (.string xs) <;> rfl

theorem grown_of_below {w w' : World} (h : Below w.heap.size w w') : w.grownBy w' none := ⟨h.os, h.tape, h.output, h.size, fun i hi _ => h.block i hi⟩
theorem below_of_grown {w w' : World} (h : w.grownBy w' none) : Below w.heap.size w w' := ⟨h.os, h.tape, h.output, h.size, fun i hi => h.block i hi (by simp)⟩
end

section
variable {ops : Array Oper} {rest : List Oper} {o : Oper} {a : Act} {Q : Exit → Act → World → Prop} {B : Nat} {w : World} {f : Fn} {N : Nat} {todo : List UInt8 → Bool} {cnt : Nat}

theorem wpL_range (hg : o.guard = none) (m : Operand) (t : TypeId) (hop : o.op = Op.range t m) (ht : Try.prog.underlying t = some (.map 44 41)) (v : Value) (hm : a.eval m = v) (h : Held B w v f N) (s : Nat) (hs : Tied f s)
    (hK : ∀ w', Walks B w' v w.heap.size f N (fun xs => (f xs).isSome) s → w.grownBy w' none → w'.heap.size = w.heap.size + 1 → wpList Try.prog ops Q rest (a.put o.dst (.pointer (some ⟨w.heap.size, 0, none⟩))) w') :
    wpList Try.prog ops Q (o :: rest) a w := by
  refine wpList_plain hg fun K' hK' => ?_
  unfold Oper.wp
  rcases h with ⟨rfl, rfl⟩ | ⟨b, D, rfl, hb, ho, rfl⟩
  · simp [execOp, hop, hm, run_range_nilMap w t 44 41 ht, Result.andThen]
    exact hK' _ _ (hK _ (.inl ⟨rfl, ⟨_, _, _, (MapKept.heap_alloc w _).1⟩, rfl, fun xs => rfl, hs.one tied_nil⟩) (World.grownBy_alloc w _ none) (by simp))
  · obtain ⟨w', hrun, r1, r2, r3⟩ := World.ownsMap.range ho K44 ht
    simp [execOp, hop, hm, hrun, Result.andThen]
    exact hK' _ _ (hK w' (.inr ⟨b, D, _, rfl, hb, by rw [hs.one (Own.tied ho)]; exact r1, rfl, fun xs => has_view D xs⟩) r2 r3)

theorem wpL_next (hg : o.guard = none) (it : Operand) (hop : o.op = Op.next it false) (v : Value) (r : Nat) (hit : a.eval it = .pointer (some ⟨r, 0, none⟩)) (h : Walks B w v r f N todo cnt)
    (hDone : cnt = 0 → (∀ xs, todo xs = false) → wpList Try.prog ops Q rest (a.put o.dst (.tuple #[.bool false])) w)
    (hMore : ∀ (xs : List UInt8) (c : Int) (w' : World) (cnt' : Nat), xs.length = 12 → (Lit.int .u64 c).wf = true → todo xs = true → f xs = some c → Walks B w' v r f N (fun ys => todo ys && decide (ys ≠ xs)) cnt' → cnt' < cnt →
      w.grownBy w' (some r) → w'.heap.size = w.heap.size → (Instr.entry (.pointer (some ⟨r, 0, none⟩))).run Try.prog w' = .ok (.tuple #[kv xs, .int .u64 c]) w' → wpList Try.prog ops Q rest (a.put o.dst (.tuple #[.bool true, kv xs, .int .u64 c])) w') :
    wpList Try.prog ops Q (o :: rest) a w := by
  rcases h with ⟨rfl, ⟨s, seen, c, hs⟩, rfl, ht, rfl⟩ | ⟨b, D, left, rfl, hb, h, rfl, ht⟩
  · refine wpList_plain hg fun K' hK' => ?_
    unfold Oper.wp
    have hrun : (Instr.next (.pointer (some ⟨r, 0, none⟩)) false o.type).run Try.prog w = .ok (.tuple #[.bool false]) w := by
      simp only [Instr.next, getObj, Sem.run_bind, Sem.run, hs, Result.andThen]
      rfl
    simp [execOp, hop, hit, hrun, Result.andThen]
    exact hK' _ _ (hDone rfl ht)
  · refine wpList_next_ranges w hg it hop 44 K44 (plainElem Try.prog 41) kv (Value.int .u64) (fun key kl hk => by obtain ⟨xs, _, e, _⟩ := key44_inv hk; exact ⟨xs, e⟩) (fun v y hv => by obtain ⟨c, rfl, _⟩ := plainElem_int_inv Try.underlying41 hv; exact ⟨c, rfl⟩)
      b r N D left cnt hit h (fun h0 hl => hDone h0 (fun xs => by rw [← ht, hl])) ?_
    intro x c kl y w' cnt' hkey hlk hv hat hrg hlt hgr hsz hen
    obtain ⟨xs, hl, e, rfl⟩ := key44_inv hkey
    have hx : x = xs := by
      have : (kv x) = kv xs := e
      unfold kv at this
      injection this with this
      have h2 : u8s x = u8s xs := by simpa using congrArg Array.toList this
      unfold u8s at h2
      refine (List.map_inj_right (f := Extern.Stop.cell) ?_).1 h2
      intro p q hpq
      unfold Extern.Stop.cell at hpq
      injection hpq with _ hpq
      apply UInt8.toNat_inj.1
      exact Int.ofNat.inj hpq
    subst hx
    obtain ⟨c', ec, hy, hwc⟩ := plainElem_int_inv Try.underlying41 hv
    injection ec with _ ec
    subst ec
    refine hMore x c w' cnt' hl hwc (by rw [← ht]; exact hlk) ?_ (.inr ⟨b, D, _, rfl, hb, hrg, rfl, fun ys => ?_⟩) hlt hgr hsz hen
    · have hh : Maps.has D (.string x) = true := Maps.has_true_of_atKey hat
      unfold view
      rw [hh, if_pos rfl, hat, hy]
      rfl
    · simp only [ht]
      congr 1
      by_cases e : ys = x
      · subst e; simp [Lit.sameKey]
      · rw [Maps.sameKey_ne (fun h => e (by injection h))]
        simp [e]
end
end Go.Proofs.Qxb6602613a.Ver
