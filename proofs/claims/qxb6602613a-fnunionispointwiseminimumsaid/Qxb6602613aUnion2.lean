/-
  Union where neither map holds all of the other: a new map, filled by two loops.
-/
import Derived.Test.Qxb6602613aUnion
namespace Go.Proofs.Qxb6602613a.Ver
open Go.RowKit
open Go.Proofs.Qxb6602613a.Mid

theorem wpL_max {ops : Array Oper} {rest : List Oper} {o : Oper} {a : Act} {w : World} {Q : Exit → Act → World → Prop} (hg : o.guard = none) (x y : Operand) (ts : Array TypeId)
    (hop : o.op = Op.call { callee := Callee.builtin Builtin.max, args := #[x, y], argTypes := ts }) (m n : Int) (hx : a.eval x = .int .i64 m) (hy : a.eval y = .int .i64 n)
    (hK : ∀ k, wpList Try.prog ops Q rest (a.put o.dst (.int .i64 k)) w) : wpList Try.prog ops Q (o :: rest) a w := by
  refine wpList_plain hg fun K' hK' => ?_
  unfold Oper.wp
  simp [execOp, hop, resolve, invoke, builtin, hx, hy, run_max_int2, Result.andThen]
  exact hK' _ _ (hK _)

set_option maxRecDepth 100000 in
set_option maxHeartbeats 2000000 in
theorem c11_both (B : Nat) (v1 v2 : Value) (f g : Fn) (N M : Nat) (w : World) (hB : B ≤ w.heap.size) (hNM : N + M ≤ 1048576) (h1 : Held B w v1 f N) (h2 : Held B w v2 g M) (hn1 : ¬ Within g f) (hn2 : ¬ Within f g) :
    Calls Try.prog 11 #[v1, v2] w (UnionOut w f g (N + M)) := by
  have hz := zero44
  obtain ⟨s1, t1, hcf⟩ := h1.tied
  obtain ⟨s2, t2, hcg⟩ := h2.tied
  have l1 := h1.len t1 Try.underlying27
  have e1 : f ≠ nil0 := fun h => hn2 (by rw [h]; exact within_nil g)
  have e0 : s1 ≠ 0 := fun h => e1 ((tied_zero t1).1 h)
  have e1' : ¬ ((s1 : Int) = 0) := by omega
  go_enter Try.func11, Try.ntmps11
  go_wp2_with fail
  refine (c26_no B v2 v1 g f M N w hB h2 h1 hn1).mono ?_
  rintro e w2 ⟨rfl, hb2⟩
  have hB2 := Nat.le_trans hB hb2.size
  go_wp2_with fail
  refine (c26_no B v1 v2 f g N M w2 hB2 (h1.below hb2 hB) (h2.below hb2 hB) hn2).mono ?_
  rintro e w3 ⟨rfl, hb3'⟩
  have hb3 := hb2.trans (hb3'.mono hb2.size)
  clear hb3' hB2 hb2 l1
  have g1 := h1.below hb3 hB
  have g2 := h2.below hb3 hB
  have l1 := g1.len t1 Try.underlying27
  have l2 := g2.len t2 Try.underlying27
  have hmm := fun (n : Int) (w : World) => run_makeMap_some 27 44 41 n .i64 w Try.underlying27
  have hB3 : B ≤ w3.heap.size := Nat.le_trans hB hb3.size
  have hA : Below w3.heap.size w3 (w3.alloc (.map #[] 0)) := (Below.refl _ _).alloc (Nat.le_refl _) _
  have k1 := g1.below hA hB3
  have o0 : Own (w3.alloc (.map #[] 0)) w3.heap.size 0 (.map []) := World.ownsMap_made _ _ _ _
  have s0 : (w3.alloc (.map #[] 0)).heap.size = w3.heap.size + 1 := by simp
  go_wp2_with (first
    | (with_reducible show wpList _ _ _ (⟨some 35, _, _, _, _, _⟩ :: _) _ _; refine wpL_max rfl _ _ _ rfl _ _ rfl rfl ?_; intro mx)
    | (at_range; refine wpL_range rfl _ 27 rfl Try.underlying27 v1 rfl k1 s1 t1 ?_; intro w0 hrg0 hg0 hs0)
    | go_in)
  go_frame
  rw [s0] at hrg0 hs0 ⊢
  have hw0 : Below w.heap.size w w0 := (hb3.trans (hA.mono hb3.size)).trans ((below_of_grown hg0).mono (by rw [s0]; have := hb3.size; omega))
  have o1 : Own w0 w3.heap.size 0 (.map []) := World.ownsMap.kept o0 hg0 (by simp)
  have b3 := hb3.size
  clear hg0 hA k1 o0 s0 l1 l2 g1 g2 hs0
  go_loopw [7] (fun _ wr => ∃ (todo : List UInt8 → Bool) (cnt n : Nat) (D : DataW Unit), Walks B wr v1 (w3.heap.size + 1) f N todo cnt ∧ Own wr w3.heap.size n D ∧ n + cnt ≤ N ∧ Below w.heap.size w wr ∧ ∀ xs, view D xs = if todo xs then none else f xs)
    (fun _ wr => leftIn wr v1 (w3.heap.size + 1))
  case atStart =>
    refine ⟨_, _, 0, _, hrg0, o1, by omega, hw0, fun xs => ?_⟩
    rw [view_empty]
    cases f xs <;> rfl
  case round =>
    clear hrg0 hw0 o1
    obtain ⟨todo, cnt, n, D, hrg, hown, hnc, hnx, hD⟩ := hrel
    go_wp2_with (first
      | (at_next; refine wpL_next rfl _ rfl v1 (w3.heap.size + 1) rfl hrg ?_ ?_)
      | go_in)
    · intro hc0 hl0
      have hDf : view D = f := by
        funext xs
        rw [hD, hl0]
        rfl
      have hcn : n ≤ N := by omega
      clear hrg hD hnc hl0 hc0
      have q2 := h2.below hnx hB
      go_wp2_with (first
        | (at_range; refine wpL_range rfl _ 27 rfl Try.underlying27 v2 rfl q2 s2 t2 ?_; intro w5 hrg5 hg5 hs5)
        | go_in)
      go_frame
      have hw5 : Below w.heap.size w w5 := hnx.trans ((below_of_grown hg5).mono hnx.size)
      have o5 : Own w5 w3.heap.size n D := World.ownsMap.kept hown hg5 (by simp)
      have hlt3 : w3.heap.size < wr.heap.size := World.ownsMap.lt hown
      have hwr := hnx.size
      clear hg5 hs5 hown hnx q2
      generalize wr.heap.size = R5 at *
      go_loopw [9] (fun _ wq => ∃ (todo : List UInt8 → Bool) (cnt k : Nat) (E : DataW Unit), Walks B wq v2 R5 g M todo cnt ∧ Own wq w3.heap.size k E ∧ k + cnt ≤ N + M ∧ Below w.heap.size w wq ∧ ∀ xs, view E xs = if todo xs then f xs else join f g xs)
        (fun _ wq => leftIn wq v2 R5)
      case atStart =>
        refine ⟨_, _, n, _, hrg5, o5, by omega, hw5, fun xs => ?_⟩
        rw [hDf]
        unfold join
        cases hg : g xs
        · cases f xs <;> rfl
        · rfl
      case round =>
        clear hrg5 hw5 o5 hDf
        obtain ⟨todo, cnt, k, E, hrg, hown, hkc, hnx, hE⟩ := hrel
        go_wp2_with (first
          | (at_next; refine wpL_next rfl _ rfl v2 R5 rfl hrg ?_ ?_)
          | go_in)
        · intro hc0 hl0
          go_wp2
          go_ret
          have hEj : view E = join f g := by
            funext xs
            rw [hE, hl0]
            rfl
          exact ⟨_, rfl, .inr ⟨w3.heap.size, E, rfl, World.ownsMap.lt hown, World.ownsMap.mono hown (by omega), hEj.symm⟩, fun h => absurd h e1, hnx⟩
        · intro xs c w1 cnt1 hl hwc htx hfx hrg1 hlt hg1 hs1 hen
          clear hs1
          have hnx1 : Below w.heap.size w w1 := hnx.grown hg1 hnx.size (fun j hj => by cases hj; omega)
          have hown1 : Own w1 w3.heap.size k E := World.ownsMap.kept hown hg1 (fun h => by cases h; omega)
          have hT := laid_there w1
          have hR := laid_range w1 xs hl
          have hB1 := laid_below w1 xs
          have hnx2 : Below w.heap.size w (laid w1 xs) := hnx1.trans (hB1.mono hnx1.size)
          have hrg2 := hrg1.kept (grown_of_below hB1) (fun j hj => by cases hj)
          have hown2 : Own (laid w1 xs) w3.heap.size k E := World.ownsMap.kept hown1 (grown_of_below hB1) (by simp)
          have hHeld : Held (w3.heap.size + 1) (laid w1 xs) (.map (some w3.heap.size)) (view E) k := .inr ⟨_, E, rfl, Nat.lt_succ_self _, hown2, rfl⟩
          have hEx : view E xs = f xs := by rw [hE, htx]; rfl
          unfold laid at hR hnx2 hrg2 hown2 hHeld
          clear hB1
          cases hux : f xs with
          | none =>
            rw [hux] at hEx
            go_wp2_with (first
              | (with_reducible show wpList _ _ _ (⟨_, .store 44 _ _, _, _, _, _⟩ :: _) _ _; refine wpL_store rfl 44 _ _ rfl w1.heap.size 0 (u8s xs) rfl rfl (by rw [length_u8s, hl]; exact hT) (by rw [size44, length_u8s, hl]) (one_u8s xs) ?_)
              | (with_reducible show wpList _ _ _ (⟨_, .load 44 (.tmp 8), _, _, _, _⟩ :: _) _ _; refine wpL_load rfl 44 _ rfl w1.heap.size 0 rfl (u8s xs) _ hR Try.underlying44 rfl (by rw [size44, length_u8s, hl]) ?_)
              | (at_lookup; refine wpL_look_none rfl _ _ 27 rfl Try.underlying27 (.map (some w3.heap.size)) rfl hHeld xs hl rfl hEx ?_)
              | (at_mapUpdate; refine wpList_mapUpdate_own _ rfl _ _ _ 27 rfl 44 41 K44 Try.underlying27 _ w3.heap.size _ _ rfl hown2 (by unfold maxLen; omega) _ _ _ rfl rfl (key44 xs hl) _ [] (plainElem_int Try.underlying41 hwc) ?_; intro w4 hown4 hg4; go_frame)
              | go_in)
            have hrg4 := hrg2.kept hg4 (fun j hj => by cases hj; omega)
            go_roundw
            case rel =>
              refine ⟨_, cnt1, k + 1, _, hrg4, hown4, by omega, hnx2.grown hg4 hnx2.size (fun j hj => by cases hj; omega), fun ys => ?_⟩
              rw [view_put hown2 xs hl, Fn.set]
              by_cases e : ys = xs
              · subst e
                simp [join, hux, hfx]
              · rw [if_neg e, hE]
                simp [e]
            case measure => rw [hrg4.left_eq, hrg.left_eq]; exact hlt
          | some b =>
            rw [hux] at hEx
            by_cases hlt2 : c < b
            · go_wp2_with (first
                | (with_reducible show wpList _ _ _ (⟨_, .store 44 _ _, _, _, _, _⟩ :: _) _ _; refine wpL_store rfl 44 _ _ rfl w1.heap.size 0 (u8s xs) rfl rfl (by rw [length_u8s, hl]; exact hT) (by rw [size44, length_u8s, hl]) (one_u8s xs) ?_)
                | (with_reducible show wpList _ _ _ (⟨_, .load 44 (.tmp 8), _, _, _, _⟩ :: _) _ _; refine wpL_load rfl 44 _ rfl w1.heap.size 0 rfl (u8s xs) _ hR Try.underlying44 rfl (by rw [size44, length_u8s, hl]) ?_)
                | (at_lookup; refine wpL_look_some rfl _ _ 27 rfl Try.underlying27 (.map (some w3.heap.size)) rfl hHeld xs hl rfl b hEx ?_)
                | (at_mapUpdate; refine wpList_mapUpdate_own _ rfl _ _ _ 27 rfl 44 41 K44 Try.underlying27 _ w3.heap.size _ _ rfl hown2 (by unfold maxLen; omega) _ _ _ rfl rfl (key44 xs hl) _ [] (plainElem_int Try.underlying41 hwc) ?_; intro w4 hown4 hg4; go_frame)
                | go_in)
              have hrg4 := hrg2.kept hg4 (fun j hj => by cases hj; omega)
              go_roundw
              case rel =>
                refine ⟨_, cnt1, k + 1, _, hrg4, hown4, by omega, hnx2.grown hg4 hnx2.size (fun j hj => by cases hj; omega), fun ys => ?_⟩
                rw [view_put hown2 xs hl, Fn.set]
                by_cases e : ys = xs
                · subst e
                  simp [join, hux, hfx, hlt2]
                · rw [if_neg e, hE]
                  simp [e]
              case measure => rw [hrg4.left_eq, hrg.left_eq]; exact hlt
            · go_wp2_with (first
                | (with_reducible show wpList _ _ _ (⟨_, .store 44 _ _, _, _, _, _⟩ :: _) _ _; refine wpL_store rfl 44 _ _ rfl w1.heap.size 0 (u8s xs) rfl rfl (by rw [length_u8s, hl]; exact hT) (by rw [size44, length_u8s, hl]) (one_u8s xs) ?_)
                | (with_reducible show wpList _ _ _ (⟨_, .load 44 (.tmp 8), _, _, _, _⟩ :: _) _ _; refine wpL_load rfl 44 _ rfl w1.heap.size 0 rfl (u8s xs) _ hR Try.underlying44 rfl (by rw [size44, length_u8s, hl]) ?_)
                | (at_lookup; refine wpL_look_some rfl _ _ 27 rfl Try.underlying27 (.map (some w3.heap.size)) rfl hHeld xs hl rfl b hEx ?_)
                | go_in)
              go_roundw
              case rel =>
                refine ⟨_, cnt1, k, _, hrg2, hown2, by omega, hnx2, fun ys => ?_⟩
                by_cases e : ys = xs
                · subst e
                  simp [join, hux, hfx, hEx, hlt2]
                · rw [hE]
                  simp [e]
              case measure => rw [hrg2.left_eq, hrg.left_eq]; exact hlt
    · intro xs c w1 cnt1 hl hwc htx hfx hrg1 hlt hg1 hs1 hen
      clear hs1
      have hnx1 : Below w.heap.size w w1 := hnx.grown hg1 hnx.size (fun j hj => by cases hj; omega)
      have hown1 : Own w1 w3.heap.size n D := World.ownsMap.kept hown hg1 (by simp)
      have hT := laid_there w1
      have hR := laid_range w1 xs hl
      have hB1 := laid_below w1 xs
      have hnx2 : Below w.heap.size w (laid w1 xs) := hnx1.trans (hB1.mono hnx1.size)
      have hrg2 := hrg1.kept (grown_of_below hB1) (fun j hj => by cases hj)
      have hown2 : Own (laid w1 xs) w3.heap.size n D := World.ownsMap.kept hown1 (grown_of_below hB1) (by simp)
      unfold laid at hR hnx2 hrg2 hown2
      clear hB1
      go_wp2_with (first
        | (with_reducible show wpList _ _ _ (⟨_, .store 44 _ _, _, _, _, _⟩ :: _) _ _; refine wpL_store rfl 44 _ _ rfl w1.heap.size 0 (u8s xs) rfl rfl (by rw [length_u8s, hl]; exact hT) (by rw [size44, length_u8s, hl]) (one_u8s xs) ?_)
        | (with_reducible show wpList _ _ _ (⟨_, .load 44 (.tmp 6), _, _, _, _⟩ :: _) _ _; refine wpL_load rfl 44 _ rfl w1.heap.size 0 rfl (u8s xs) _ hR Try.underlying44 rfl (by rw [size44, length_u8s, hl]) ?_)
        | (at_mapUpdate; refine wpList_mapUpdate_own _ rfl _ _ _ 27 rfl 44 41 K44 Try.underlying27 _ w3.heap.size _ _ rfl hown2 (by unfold maxLen; omega) _ _ _ rfl rfl (key44 xs hl) _ [] (plainElem_int Try.underlying41 hwc) ?_; intro w4 hown4 hg4; go_frame)
        | go_in)
      have hrg4 := hrg2.kept hg4 (fun j hj => by cases hj; omega)
      go_roundw
      case rel =>
        refine ⟨_, cnt1, n + 1, _, hrg4, hown4, by omega, hnx2.grown hg4 hnx2.size (fun j hj => by cases hj; omega), fun ys => ?_⟩
        rw [view_put hown2 xs hl, Fn.set]
        by_cases e : ys = xs
        · subst e
          simp [hfx]
        · rw [if_neg e, hD]
          simp [e]
      case measure => rw [hrg4.left_eq, hrg.left_eq]; exact hlt

end Go.Proofs.Qxb6602613a.Ver
