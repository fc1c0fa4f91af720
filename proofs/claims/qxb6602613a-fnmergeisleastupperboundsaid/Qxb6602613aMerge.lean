/-
  Merge, over what the maps say.
-/
import Derived.Test.Qxb6602613aMore
import Derived.Test.Qxb6602613aBuild
import Derived.OpenShut
namespace Go.Proofs.Qxb6602613a.Ver
open Go.RowKit
open Go.Proofs.Qxb6602613a.Mid
open Go.WideElems (Fit rg rd_key rg_of)
open Go.ChangeShapes Go.WideShapes

/-- The number of a replica: nought where the map has none. -/
def at0 (f : Fn) (x : List UInt8) : Int := (f x).getD 0
/-- m is the least that is no less than f and g at any replica. -/
def IsMerge (m f g : Fn) : Prop := ∀ x, at0 m x = if at0 f x < at0 g x then at0 g x else at0 f x

theorem Own.twelve {w : World} {b n : Nat} {D : DataW Unit} (h : Own w b n D) {xs : List UInt8} {a : Int} (hx : view D xs = some a) : xs.length = 12 := by
  have hh : Maps.has D (.string xs) = true := by rw [has_view, hx]; rfl
  obtain ⟨es, clock, _, F, _, rfl⟩ := h
  rw [Maps.has_eq, List.any_eq_true] at hh
  obtain ⟨p, hp, hs⟩ := hh
  obtain ⟨x, hx, rfl⟩ := List.mem_map.1 (mem_sorted.1 hp)
  obtain ⟨y, hy⟩ := F.reads x hx
  obtain ⟨ys, hl, _, hk⟩ := key44_inv (rd_key hy)
  have e := WideAt.sameKey_eq hs
  rw [rg_of hy, hk] at e
  injection e with e
  rw [← e]
  exact hl

theorem Held.nonneg {B : Nat} {w : World} {v : Value} {f : Fn} {N : Nat} (h : Held B w v f N) (x : List UInt8) : 0 ≤ at0 f x := by
  unfold at0
  cases hx : f x with
  | none => exact Int.le_refl 0
  | some a =>
    have hl : x.length = 12 := by
      rcases h with ⟨_, rfl⟩ | ⟨b, D, _, _, ho, rfl⟩
      · cases hx
      · exact Own.twelve ho hx
    have := h.wf hl
    rw [hx] at this
    exact (bounds_u64 this).1

theorem more_at {f g : Fn} (hg : ∀ x, 0 ≤ at0 g x) : More f g ↔ ∃ x, at0 g x < at0 f x := by
  constructor
  · rintro ⟨x, a, hf, hlt⟩
    exact ⟨x, by unfold at0; rw [hf]; exact hlt⟩
  · rintro ⟨x, hlt⟩
    have := hg x
    cases hf : f x with
    | none =>
      have e : at0 f x = 0 := by unfold at0; rw [hf]; rfl
      omega
    | some a => exact ⟨x, a, hf, by unfold at0 at hlt; rw [hf] at hlt; exact hlt⟩

/-- What Merge lays into its new map. -/
def merged (f g : Fn) : Fn := fun x => match g x with
  | none => f x
  | some b => some (if b > at0 f x then b else at0 f x)
theorem merged_is {f g : Fn} (hf : ∀ x, 0 ≤ at0 f x) : IsMerge (merged f g) f g := by
  intro x
  have := hf x
  unfold merged
  cases hg : g x with
  | none =>
    have e : at0 g x = 0 := by unfold at0; rw [hg]; rfl
    have e2 : at0 (fun x => match g x with | none => f x | some b => some (if b > at0 f x then b else at0 f x)) x = at0 f x := by
      unfold at0
      simp only [hg]
    rw [e2, e, if_neg (by omega)]
  | some b =>
    have e : at0 g x = b := by unfold at0; rw [hg]; rfl
    have e2 : at0 (fun x => match g x with | none => f x | some b => some (if b > at0 f x then b else at0 f x)) x = if b > at0 f x then b else at0 f x := by
      unfold at0
      simp only [hg]
      rfl
    rw [e2, e]

theorem at0_nil {f : Fn} (h : f = nil0) (x : List UInt8) : at0 f x = 0 := by subst h; rfl
theorem more_nil (g : Fn) : ¬ More nil0 g := fun ⟨_, _, h, _⟩ => by cases h

def MergeOut (w : World) (f g : Fn) (K : Nat) (e : Ending) (w' : World) : Prop :=
  ∃ v, e = .returned v ∧ ∃ m, Held w'.heap.size w' v m K ∧ IsMerge m f g ∧ Below w.heap.size w w'

set_option maxRecDepth 100000 in
set_option maxHeartbeats 1000000 in
theorem c19_nil (B : Nat) (v1 v2 : Value) (f g : Fn) (N M : Nat) (w : World) (h1 : Held B w v1 f N) (h2 : Held B w v2 g M) (e1 : f = nil0) (e2 : g = nil0) :
    Calls Try.prog 19 #[v1, v2] w (MergeOut w f g (N + M)) := by
  have l1 := h1.len (s := 0) (by rw [e1]; exact tied_nil) Try.underlying35
  have l2 := h2.len (s := 0) (by rw [e2]; exact tied_nil) Try.underlying35
  have hf := at0_nil e1
  have hg := at0_nil e2
  go_enter Try.func19, Try.ntmps19
  go_wp2
  go_ret
  exact ⟨_, rfl, nil0, .none _ _ _, fun x => by rw [hf, hg]; rfl, Below.refl _ _⟩

set_option maxRecDepth 100000 in
set_option maxHeartbeats 1000000 in
theorem c19_left (B : Nat) (v1 v2 : Value) (f g : Fn) (N M : Nat) (w : World) (hB : B ≤ w.heap.size) (h1 : Held B w v1 f N) (h2 : Held B w v2 g M) (hn : ¬ More g f) (e1 : ¬ (f = nil0 ∧ g = nil0)) :
    Calls Try.prog 19 #[v1, v2] w (MergeOut w f g (N + M)) := by
  obtain ⟨s1, t1, _⟩ := h1.tied
  obtain ⟨s2, t2, _⟩ := h2.tied
  have l1 := h1.len t1 Try.underlying35
  have l2 := h2.len t2 Try.underlying35
  have hm : IsMerge f f g := fun x => by
    rw [if_neg]
    exact fun h => hn ((more_at h1.nonneg).2 ⟨x, h⟩)
  by_cases z1 : s1 = 0
  · have z0 : s2 ≠ 0 := fun h => e1 ⟨(tied_zero t1).1 z1, (tied_zero t2).1 h⟩
    have z2 : ¬ ((s2 : Int) = 0) := by omega
    rw [z1] at l1
    go_enter Try.func19, Try.ntmps19
    go_wp2_with fail
    refine (c28_no B v2 v1 g f M N w hB h2 h1 hn).mono ?_
    rintro e w2 ⟨rfl, hb⟩
    go_wp2
    go_ret
    exact ⟨_, rfl, f, (h1.below hb hB).mono (Nat.le_trans hB hb.size) (by omega), hm, hb⟩
  · have z1' : ¬ ((s1 : Int) = 0) := by omega
    go_enter Try.func19, Try.ntmps19
    go_wp2_with fail
    refine (c28_no B v2 v1 g f M N w hB h2 h1 hn).mono ?_
    rintro e w2 ⟨rfl, hb⟩
    go_wp2
    go_ret
    exact ⟨_, rfl, f, (h1.below hb hB).mono (Nat.le_trans hB hb.size) (by omega), hm, hb⟩

set_option maxRecDepth 100000 in
set_option maxHeartbeats 1000000 in
theorem c19_right (B : Nat) (v1 v2 : Value) (f g : Fn) (N M : Nat) (w : World) (hB : B ≤ w.heap.size) (h1 : Held B w v1 f N) (h2 : Held B w v2 g M) (hy : More g f) (hn : ¬ More f g) :
    Calls Try.prog 19 #[v1, v2] w (MergeOut w f g (N + M)) := by
  obtain ⟨s1, t1, _⟩ := h1.tied
  obtain ⟨s2, t2, _⟩ := h2.tied
  have l1 := h1.len t1 Try.underlying35
  have l2 := h2.len t2 Try.underlying35
  have hm : IsMerge g f g := fun x => by
    have : ¬ at0 g x < at0 f x := fun h => hn ((more_at h2.nonneg).2 ⟨x, h⟩)
    split <;> omega
  have e2 : s2 ≠ 0 := fun h => more_nil f (by rw [(tied_zero t2).1 h] at hy; exact hy)
  have z2 : ¬ ((s2 : Int) = 0) := by omega
  by_cases z1 : s1 = 0
  · rw [z1] at l1
    go_enter Try.func19, Try.ntmps19
    go_wp2_with fail
    refine (c28_yes B v2 v1 g f M N w hB h2 h1 hy).mono ?_
    rintro e w2 ⟨rfl, hb⟩
    go_wp2_with fail
    refine (c28_no B v1 v2 f g N M w2 (Nat.le_trans hB hb.size) (h1.below hb hB) (h2.below hb hB) hn).mono ?_
    rintro e w3 ⟨rfl, hb2⟩
    have hb3 := hb.trans (hb2.mono hb.size)
    go_wp2
    go_ret
    exact ⟨_, rfl, g, (h2.below hb3 hB).mono (Nat.le_trans hB hb3.size) (by omega), hm, hb3⟩
  · have z1' : ¬ ((s1 : Int) = 0) := by omega
    go_enter Try.func19, Try.ntmps19
    go_wp2_with fail
    refine (c28_yes B v2 v1 g f M N w hB h2 h1 hy).mono ?_
    rintro e w2 ⟨rfl, hb⟩
    go_wp2_with fail
    refine (c28_no B v1 v2 f g N M w2 (Nat.le_trans hB hb.size) (h1.below hb hB) (h2.below hb hB) hn).mono ?_
    rintro e w3 ⟨rfl, hb2⟩
    have hb3 := hb.trans (hb2.mono hb.size)
    go_wp2
    go_ret
    exact ⟨_, rfl, g, (h2.below hb3 hB).mono (Nat.le_trans hB hb3.size) (by omega), hm, hb3⟩

theorem exec_look {op : Oper} {a : Act} {w : World} {B N : Nat} {v : Value} {f : Fn} {t : TypeId} {m x : Operand} (ho : op.op = .lookup t m x false) (xs : List UInt8) (hl : xs.length = 12) (hm : a.eval m = v) (hx : a.eval x = kv xs) (h : Held B w v f N)
    (ht : Try.prog.underlying t = some (.map 44 41)) : (execOp a.eval op).run Try.prog w = .ok (.value (.int .u64 (at0 f xs))) w := by
  unfold execOp
  simp only [ho, hm, hx, Sem.run_bind, h.look ht hl, Result.andThen_ok, Sem.run_pure, at0]

theorem exec_max {op : Oper} {a : Act} {w : World} {x y : Operand} {ts : Array TypeId} (ho : op.op = Op.call { callee := Callee.builtin Builtin.max, args := #[x, y], argTypes := ts }) (m n : Int) (hx : a.eval x = .int .u64 m) (hy : a.eval y = .int .u64 n) :
    (execOp a.eval op).run Try.prog w = .ok (.value (.int .u64 (if n > m then n else m))) w := by
  simp [execOp, ho, resolve, invoke, builtin, hx, hy, run_max_int2, Result.andThen]

set_option maxRecDepth 100000 in
set_option maxHeartbeats 2000000 in
theorem c19_both (B : Nat) (v1 v2 : Value) (f g : Fn) (N M : Nat) (w : World) (hB : B ≤ w.heap.size) (hNM : N + M ≤ 1048576) (h1 : Held B w v1 f N) (h2 : Held B w v2 g M) (hy1 : More g f) (hy2 : More f g) :
    Calls Try.prog 19 #[v1, v2] w (MergeOut w f g (N + M)) := by
  have hz := zero44
  obtain ⟨s1, t1, hcf⟩ := h1.tied
  obtain ⟨s2, t2, hcg⟩ := h2.tied
  have l1 := h1.len t1 Try.underlying35
  have e1 : f ≠ nil0 := fun h => more_nil g (by rw [h] at hy2; exact hy2)
  have e0 : s1 ≠ 0 := fun h => e1 ((tied_zero t1).1 h)
  have e1' : ¬ ((s1 : Int) = 0) := by omega
  go_enter Try.func19, Try.ntmps19
  go_wp2_with fail
  refine (c28_yes B v2 v1 g f M N w hB h2 h1 hy1).mono ?_
  rintro e w2 ⟨rfl, hb2⟩
  have hB2 := Nat.le_trans hB hb2.size
  go_wp2_with fail
  refine (c28_yes B v1 v2 f g N M w2 hB2 (h1.below hb2 hB) (h2.below hb2 hB) hy2).mono ?_
  rintro e w3 ⟨rfl, hb3'⟩
  have hb3 := hb2.trans (hb3'.mono hb2.size)
  clear hb3' hB2 hb2 l1
  have g1 := h1.below hb3 hB
  have g2 := h2.below hb3 hB
  have l1 := g1.len t1 Try.underlying35
  have l2 := g2.len t2 Try.underlying35
  have hmm := fun (n : Int) (w : World) => run_makeMap_some 35 44 41 n .i64 w Try.underlying35
  have hB3 : B ≤ w3.heap.size := Nat.le_trans hB hb3.size
  have hA : Below w3.heap.size w3 (w3.alloc (.map #[] 0)) := (Below.refl _ _).alloc (Nat.le_refl _) _
  have k1 := g1.below hA hB3
  have o0 : Own (w3.alloc (.map #[] 0)) w3.heap.size 0 (.map []) := World.ownsMap_made _ _ _ _
  have s0 : (w3.alloc (.map #[] 0)).heap.size = w3.heap.size + 1 := by simp
  go_wp2_with (first
    | (with_reducible show wpList _ _ _ (⟨some 35, _, _, _, _, _⟩ :: _) _ _; refine wpL_max rfl _ _ _ rfl _ _ rfl rfl ?_; intro mx)
    | (at_range; refine wpL_range rfl _ 35 rfl Try.underlying35 v1 rfl k1 s1 t1 ?_; intro w0 hrg0 hg0 hs0)
    | go_in)
  go_frame
  rw [s0] at hrg0 hs0 ⊢
  have hw0 : Below w.heap.size w w0 := (hb3.trans (hA.mono hb3.size)).trans ((below_of_grown hg0).mono (by rw [s0]; have := hb3.size; omega))
  have o1 : Own w0 w3.heap.size 0 (.map []) := World.ownsMap.kept o0 hg0 (by simp)
  have b3 := hb3.size
  clear hg0 hA k1 o0 s0 l1 l2 g1 g2 hs0
  go_loopw [7] (fun _ wr => ∃ (todo : List UInt8 → Bool) (cnt n : Nat) (D : DataW Unit), Walks B wr v1 (w3.heap.size + 1) f N todo cnt ∧ Own wr w3.heap.size n D ∧ n + cnt ≤ N ∧ Below w.heap.size w wr ∧ ∀ xs, view D xs = if todo xs then none else f xs)
    (fun _ wr => leftIn wr v1 (w3.heap.size + 1))
  case atStart =>
    refine ⟨_, _, 0, _, hrg0, o1, by omega, hw0, fun xs => ?_⟩
    rw [view_empty]
    cases f xs <;> rfl
  case round =>
    clear hrg0 hw0 o1
    obtain ⟨todo, cnt, n, D, hrg, hown, hnc, hnx, hD⟩ := hrel
    go_wp2_with (first
      | (at_next; refine wpL_next rfl _ rfl v1 (w3.heap.size + 1) rfl hrg ?_ ?_)
      | go_in)
    · intro hc0 hl0
      have hDf : view D = f := by
        funext xs
        rw [hD, hl0]
        rfl
      have hcn : n ≤ N := by omega
      clear hrg hD hnc hl0 hc0
      have q2 := h2.below hnx hB
      go_wp2_with (first
        | (at_range; refine wpL_range rfl _ 35 rfl Try.underlying35 v2 rfl q2 s2 t2 ?_; intro w5 hrg5 hg5 hs5)
        | go_in)
      go_frame
      have hw5 : Below w.heap.size w w5 := hnx.trans ((below_of_grown hg5).mono hnx.size)
      have o5 : Own w5 w3.heap.size n D := World.ownsMap.kept hown hg5 (by simp)
      have hlt3 : w3.heap.size < wr.heap.size := World.ownsMap.lt hown
      have hwr := hnx.size
      clear hg5 hs5 hown hnx q2
      generalize wr.heap.size = R5 at *
      go_loopw [9] (fun _ wq => ∃ (todo : List UInt8 → Bool) (cnt k : Nat) (E : DataW Unit), Walks B wq v2 R5 g M todo cnt ∧ Own wq w3.heap.size k E ∧ k + cnt ≤ N + M ∧ Below w.heap.size w wq ∧ ∀ xs, view E xs = if todo xs then f xs else merged f g xs)
        (fun _ wq => leftIn wq v2 R5)
      case atStart =>
        refine ⟨_, _, n, _, hrg5, o5, by omega, hw5, fun xs => ?_⟩
        rw [hDf]
        unfold merged
        cases hg : g xs <;> rfl
      case round =>
        clear hrg5 hw5 o5 hDf
        obtain ⟨todo, cnt, k, E, hrg, hown, hkc, hnx, hE⟩ := hrel
        go_wp2_with (first
          | (at_next; refine wpL_next rfl _ rfl v2 R5 rfl hrg ?_ ?_)
          | go_in)
        · intro hc0 hl0
          go_wp2
          go_ret
          have hEj : view E = merged f g := by
            funext xs
            rw [hE, hl0]
            rfl
          exact ⟨_, rfl, merged f g, .inr ⟨w3.heap.size, E, rfl, World.ownsMap.lt hown, World.ownsMap.mono hown (by omega), hEj.symm⟩, merged_is h1.nonneg, hnx⟩
        · intro xs c w1 cnt1 hl hwc htx hfx hrg1 hlt hg1 hs1 hen
          clear hs1
          have hnx1 : Below w.heap.size w w1 := hnx.grown hg1 hnx.size (fun j hj => by cases hj; omega)
          have hown1 : Own w1 w3.heap.size k E := World.ownsMap.kept hown hg1 (fun h => by cases h; omega)
          have hT := laid_there w1
          have hR := laid_range w1 xs hl
          have hB1 := laid_below w1 xs
          have hnx2 : Below w.heap.size w (laid w1 xs) := hnx1.trans (hB1.mono hnx1.size)
          have hrg2 := hrg1.kept (grown_of_below hB1) (fun j hj => by cases hj)
          have hown2 : Own (laid w1 xs) w3.heap.size k E := World.ownsMap.kept hown1 (grown_of_below hB1) (by simp)
          have hHeld : Held (w3.heap.size + 1) (laid w1 xs) (.map (some w3.heap.size)) (view E) k := .inr ⟨_, E, rfl, Nat.lt_succ_self _, hown2, rfl⟩
          have hEx : view E xs = f xs := by rw [hE, htx]; rfl
          unfold laid at hR hnx2 hrg2 hown2 hHeld
          clear hB1
          go_upto_region 15 with (first
            | (with_reducible show wpList _ _ _ (⟨_, .store 44 _ _, _, _, _, _⟩ :: _) _ _; refine wpL_store rfl 44 _ _ rfl w1.heap.size 0 (u8s xs) rfl rfl (by rw [length_u8s, hl]; exact hT) (by rw [size44, length_u8s, hl]) (one_u8s xs) ?_)
            | go_in)
          have hB2 : w3.heap.size < w1.heap.size := World.ownsMap.lt hown1
          clear hown1 hg1 hrg1 hen hT
          generalize w1.heap.size = B2 at *
          generalize hw5 : (w1.alloc (.cells z44.toArray 44)).setCells B2 0 (u8s xs) = w5 at *
          clear hw5
          refine wp_region_held (S := fun w' => w'.rangeAt B2 0 (u8s xs)) (by kernel_rfl) ?_
          have hS : w5.drew.rangeAt B2 0 (u8s xs) := hR
          refine take_at 0 54 rfl rfl (by decide +kernel) (by decide +kernel) (by decide +kernel) (fun _ _ _ h => h) (take_val rfl (fun _ _ => rfl)) hS ?_
          simp only [Act.put, List.setIfInBounds_toArray, List.set_cons_zero, List.set_cons_succ]
          refine take_at 1 55 rfl rfl (by decide +kernel) (by decide +kernel) (by decide +kernel) (fun _ _ _ h => h) (yieldsIf_load_mid rfl 44 _ rfl B2 0 rfl (u8s xs) _ (fun _ h => h) Try.underlying44 rfl (by rw [size44, length_u8s, hl])) hS ?_
          simp only [Act.put, List.setIfInBounds_toArray, List.set_cons_zero, List.set_cons_succ]
          refine take_at 2 56 rfl rfl (by decide +kernel) (by decide +kernel) (by decide +kernel) (fun _ _ _ h => h) (take_val rfl (fun _ _ => rfl)) hS ?_
          simp only [Act.put, List.setIfInBounds_toArray, List.set_cons_zero, List.set_cons_succ]
          refine take_at 3 57 rfl rfl (by decide +kernel) (by decide +kernel) (by decide +kernel) (fun _ _ _ h => h) (yieldsIf_load_mid rfl 44 _ rfl B2 0 rfl (u8s xs) _ (fun _ h => h) Try.underlying44 rfl (by rw [size44, length_u8s, hl])) hS ?_
          simp only [Act.put, List.setIfInBounds_toArray, List.set_cons_zero, List.set_cons_succ]
          refine take_at 5 59 rfl rfl (by decide +kernel) (by decide +kernel) (by decide +kernel) (fun _ _ _ h => h) (take_val rfl (fun _ _ => rfl)) hS ?_
          simp only [Act.put, List.setIfInBounds_toArray, List.set_cons_zero, List.set_cons_succ]
          refine one_val 4 58 rfl rfl (by decide +kernel) rfl _ w5.drew (exec_look rfl xs hl rfl rfl (show Held (w3.heap.size + 1) w5.drew (.map (some w3.heap.size)) (view E) k from hHeld) Try.underlying35) hS ?_
          simp only [Act.put, List.setIfInBounds_toArray, List.set_cons_zero, List.set_cons_succ]
          refine one_val 6 60 rfl rfl (by decide +kernel) rfl _ w5.drew (exec_max rfl (at0 (view E) xs) c rfl rfl) hS ?_
          simp only [Act.put, List.setIfInBounds_toArray, List.set_cons_zero, List.set_cons_succ]
          have hat : at0 (view E) xs = at0 f xs := by unfold at0; rw [hEx]
          rw [hat]
          have hf0 := h1.nonneg xs
          have hwm : (Lit.int .u64 (if c > at0 f xs then c else at0 f xs)).wf = true := by
            by_cases e : c > at0 f xs
            · rw [if_pos e]; exact hwc
            · rw [if_neg e]; unfold at0; exact h1.wf hl
          generalize hmx : (if c > at0 f xs then c else at0 f xs) = mx at *
          obtain ⟨w4, hrun, hown4, hg4⟩ := World.ownsMap.update (show Own w5.drew w3.heap.size k E from hown2) K44 Try.underlying35 (by unfold maxLen; omega) (key44 xs hl) (plainElem_int Try.underlying41 hwm)
          have hrg4 := Walks.kept (w := w5.drew) hrg2 hg4 (fun j hj => by cases hj; omega)
          have hnx5 : Below w.heap.size w w5.drew := hnx2.drew
          have hnx4 : Below w.heap.size w w4 := hnx5.grown hg4 hnx5.size (fun j hj => by cases hj; omega)
          have hV := view_put hown2 xs hl mx
          refine one_mapUpdate 7 rfl rfl (by decide +kernel) rfl 35 _ _ _ rfl _ _ _ rfl rfl rfl w4 hrun (fun j v hv => ?_) ?_
          · rw [hg4.cell (hS j v hv) (fun h => by have := Option.some.inj h; simp only at this; omega)]
          refine wpAnyH_done (by decide +kernel) ?_ _
          clear hS hrun hR hHeld
          go_wp2
          go_roundw
          case rel =>
            refine ⟨_, cnt1, k + 1, _, hrg4, hown4, by omega, hnx4, fun ys => ?_⟩
            rw [hV, Fn.set]
            by_cases e : ys = xs
            · subst e
              simp [merged, hfx, hmx]
            · rw [if_neg e, hE]
              simp [e]
          case measure => rw [hrg4.left_eq, hrg.left_eq]; exact hlt
    · intro xs c w1 cnt1 hl hwc htx hfx hrg1 hlt hg1 hs1 hen
      clear hs1
      have hnx1 : Below w.heap.size w w1 := hnx.grown hg1 hnx.size (fun j hj => by cases hj; omega)
      have hown1 : Own w1 w3.heap.size n D := World.ownsMap.kept hown hg1 (by simp)
      have hT := laid_there w1
      have hR := laid_range w1 xs hl
      have hB1 := laid_below w1 xs
      have hnx2 : Below w.heap.size w (laid w1 xs) := hnx1.trans (hB1.mono hnx1.size)
      have hrg2 := hrg1.kept (grown_of_below hB1) (fun j hj => by cases hj)
      have hown2 : Own (laid w1 xs) w3.heap.size n D := World.ownsMap.kept hown1 (grown_of_below hB1) (by simp)
      unfold laid at hR hnx2 hrg2 hown2
      clear hB1
      go_wp2_with (first
        | (with_reducible show wpList _ _ _ (⟨_, .store 44 _ _, _, _, _, _⟩ :: _) _ _; refine wpL_store rfl 44 _ _ rfl w1.heap.size 0 (u8s xs) rfl rfl (by rw [length_u8s, hl]; exact hT) (by rw [size44, length_u8s, hl]) (one_u8s xs) ?_)
        | (with_reducible show wpList _ _ _ (⟨_, .load 44 (.tmp 6), _, _, _, _⟩ :: _) _ _; refine wpL_load rfl 44 _ rfl w1.heap.size 0 rfl (u8s xs) _ hR Try.underlying44 rfl (by rw [size44, length_u8s, hl]) ?_)
        | (at_mapUpdate; refine wpList_mapUpdate_own _ rfl _ _ _ 35 rfl 44 41 K44 Try.underlying35 _ w3.heap.size _ _ rfl hown2 (by unfold maxLen; omega) _ _ _ rfl rfl (key44 xs hl) _ [] (plainElem_int Try.underlying41 hwc) ?_; intro w4 hown4 hg4; go_frame)
        | go_in)
      have hrg4 := hrg2.kept hg4 (fun j hj => by cases hj; omega)
      go_roundw
      case rel =>
        refine ⟨_, cnt1, n + 1, _, hrg4, hown4, by omega, hnx2.grown hg4 hnx2.size (fun j hj => by cases hj; omega), fun ys => ?_⟩
        rw [view_put hown2 xs hl, Fn.set]
        by_cases e : ys = xs
        · subst e
          simp [hfx]
        · rw [if_neg e, hD]
          simp [e]
      case measure => rw [hrg4.left_eq, hrg.left_eq]; exact hlt


theorem c19 (B : Nat) (v1 v2 : Value) (f g : Fn) (N M : Nat) (w : World) (hB : B ≤ w.heap.size) (hNM : N + M ≤ 1048576) (h1 : Held B w v1 f N) (h2 : Held B w v2 g M) :
    Calls Try.prog 19 #[v1, v2] w (MergeOut w f g (N + M)) := by
  by_cases e : f = nil0 ∧ g = nil0
  · exact c19_nil B v1 v2 f g N M w h1 h2 e.1 e.2
  · by_cases hw : More g f
    · by_cases hw2 : More f g
      · exact c19_both B v1 v2 f g N M w hB hNM h1 h2 hw hw2
      · exact c19_right B v1 v2 f g N M w hB h1 h2 hw hw2
    · exact c19_left B v1 v2 f g N M w hB h1 h2 hw e

end Go.Proofs.Qxb6602613a.Ver
