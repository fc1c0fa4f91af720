/-
  zzBuild whole; zzMinAt at the union.
-/
import Derived.Test.Qxb6602613aBuild
namespace Go.Proofs.Qxb6602613a.Ver
open Go.RowKit
open Go.Proofs.Qxb6602613a.Mid

/-- zzBuild: some map that lies in the heap and says what the lists say. -/
theorem c10 (l1 l2 : Loc) (ks : List (List UInt8)) (vs : List Int) (B : Nat) (w : World) (hB : B ≤ w.heap.size) (hn : ks.length = vs.length) (hm : ks.length ≤ 131072) (h1 : KeysLie B w l1 ks) (h2 : NumsLie B w l2 vs) :
    Calls Try.prog 10 #[l1.val ks.length, l2.val vs.length] w fun e w' => ∃ v, e = .returned v ∧ (Held w'.heap.size w' v (built ks vs ks.length) ks.length ∧ Below w.heap.size w w') := by
  obtain ⟨ao, cap, b, off⟩ := l1
  obtain ⟨ao2, cap2, b2, off2⟩ := l2
  cases ao with
  | none =>
    have hz : ks = [] := by
      rcases Nat.eq_zero_or_pos ks.length with h | h
      · exact List.eq_nil_of_length_eq_zero h
      · have := (h1.addr (by omega)).1; cases this
    subst hz
    obtain rfl : cap = 0 := h1.nil rfl
    refine (c10_nil _ w).mono ?_
    rintro e w' ⟨rfl, rfl⟩
    exact ⟨_, rfl, .none _ _ _, Below.refl _ _⟩
  | some A =>
    refine (c10_made A cap b off ao2 cap2 b2 off2 ks vs B w hB hn hm h1 h2).mono ?_
    rintro e w' ⟨rfl, D, ho, hD, hb⟩
    exact ⟨_, rfl, .inr ⟨_, D, rfl, World.ownsMap.lt ho, ho, hD.symm⟩, hb⟩

theorem c11 (B : Nat) (v1 v2 : Value) (f g : Fn) (N M : Nat) (w : World) (hB : B ≤ w.heap.size) (hNM : N + M ≤ 1048576) (h1 : Held B w v1 f N) (h2 : Held B w v2 g M) :
    Calls Try.prog 11 #[v1, v2] w (UnionOut w f g (N + M)) := by
  by_cases hw : Within g f
  · by_cases e1 : f = nil0
    · have hf := e1
      have hg : g = nil0 := by
        funext xs
        cases hx : g xs with
        | none => rfl
        | some b =>
          obtain ⟨a, ha, _⟩ := hw xs b hx
          rw [hf] at ha
          cases ha
      exact c11_nil B v1 v2 f g N M w h1 h2 e1 hg
    · exact c11_left B v1 v2 f g N M w hB h1 h2 hw e1
  · by_cases hw2 : Within f g
    · exact c11_right B v1 v2 f g N M w hB h1 h2 hw hw2
    · exact c11_both B v1 v2 f g N M w hB hNM h1 h2 hw hw2

set_option maxRecDepth 100000 in
set_option maxHeartbeats 2000000 in
theorem c12 (B : Nat) (vu vc vd : Value) (f g : Fn) (K N M : Nat) (l : Loc) (ks : List (List UInt8)) (w : World) (hB : B ≤ w.heap.size) (hm : ks.length ≤ 131072)
    (hu : Held B w vu (join f g) K) (hc : Held B w vc f N) (hd : Held B w vd g M) (hk : KeysLie B w l ks) (hin : ∀ i (h : i < ks.length), (f ks[i]).isSome = true ∨ (g ks[i]).isSome = true) :
    Calls Try.prog 12 #[vu, vc, vd, l.val ks.length] w fun e w' => e = .returned (.bool true) ∧ Below w.heap.size w w' := by
  have hz := zero44
  obtain ⟨ao, cap, b, off⟩ := l
  simp only [Loc.val]
  go_enter Try.func12, Try.ntmps12
  go_wp2
  go_loopw [9] (fun i wr => ∃ k : Nat, k ≤ ks.length ∧ i = .int .i64 k ∧ Below w.heap.size w wr) (fun i _ => ks.length - (intOf i).toNat)
  case atStart => exact ⟨0, Nat.zero_le _, rfl, Below.refl _ _⟩
  case round =>
    obtain ⟨k, hk1, rfl, hnx⟩ := hrel
    by_cases hlt : k < ks.length
    · obtain ⟨e1, hb1⟩ := hk.addr (by omega)
      simp only at e1 hb1
      subst e1
      have hR := rangeAt_below hnx (Nat.lt_of_lt_of_le hb1 hB) (hk.row k hlt)
      have hL := hk.len k hlt
      have hI := hin k hlt
      simp only at hR
      generalize ks[k] = xs at *
      go_wp2_with (first
        | (with_reducible show wpList _ _ _ (⟨_, .load 42 (.tmp 26), _, _, _, _⟩ :: _) _ _; refine wpL_load rfl 42 _ rfl b (off + k * 12) rfl (u8s xs) _ hR Try.underlying42 rfl (by rw [size42, length_u8s, hL]) ?_)
        | fail)
      refine (c25 xs hL wr).mono ?_
      rintro e w2 ⟨rfl, hb2⟩
      have hnx2 : Below w.heap.size w w2 := hnx.trans (hb2.mono hnx.size)
      have hT := laid_there w2
      have hR2 := laid_range w2 xs hL
      have hnx3 : Below w.heap.size w (laid w2 xs) := hnx2.trans ((laid_below w2 xs).mono hnx2.size)
      have qu := hu.below hnx3 hB
      have qc := hc.below hnx3 hB
      have qd := hd.below hnx3 hB
      unfold laid at hR2 hnx3 qu qc qd
      clear hb2 hnx2 hR hnx
      go_upto_region 5 with (first
        | (with_reducible show wpList _ _ _ (⟨_, .store 44 _ _, _, _, _, _⟩ :: _) _ _; refine wpL_store rfl 44 _ _ rfl w2.heap.size 0 (u8s xs) rfl rfl (by rw [length_u8s, hL]; exact hT) (by rw [size44, length_u8s, hL]) (one_u8s xs) ?_)
        | fail)
      generalize w2.heap.size = B2 at *
      generalize hw3 : (w2.alloc (.cells z44.toArray 44)).setCells B2 0 (u8s xs) = w3 at *
      clear hw3 hT
      cases hf : f xs with
      | none =>
        cases hg : g xs with
        | none => rw [hf, hg] at hI; simp at hI
        | some y =>
          have hj : join f g xs = some y := by simp [join, hf, hg]
          go_wp2_with (first
            | (with_reducible show wpList _ _ _ (⟨_, .load 44 (.tmp 10), _, _, _, _⟩ :: _) _ _; refine wpL_load rfl 44 _ rfl B2 0 rfl (u8s xs) _ hR2 Try.underlying44 rfl (by rw [size44, length_u8s, hL]) ?_)
            | (with_reducible show wpList _ _ _ (⟨some 32, _, _, _, _, _⟩ :: _) _ _; refine wpL_look_none rfl _ _ 25 rfl Try.underlying25 vc rfl qc xs hL rfl hf ?_)
            | (with_reducible show wpList _ _ _ (⟨some 38, _, _, _, _, _⟩ :: _) _ _; refine wpL_look_some rfl _ _ 25 rfl Try.underlying25 vd rfl qd xs hL rfl y hg ?_)
            | (with_reducible show wpList _ _ _ (⟨some 44, _, _, _, _, _⟩ :: _) _ _; refine wpL_look_some rfl _ _ 25 rfl Try.underlying25 vu rfl qu xs hL rfl y hj ?_)
            | go_in)
          go_roundw
          case rel => exact ⟨k + 1, by omega, by go_num, hnx3⟩
          case measure => simp [intOf]; omega
      | some x =>
        cases hg : g xs with
        | none =>
          have hj : join f g xs = some x := by simp [join, hf, hg]
          go_wp2_with (first
            | (with_reducible show wpList _ _ _ (⟨_, .load 44 (.tmp 10), _, _, _, _⟩ :: _) _ _; refine wpL_load rfl 44 _ rfl B2 0 rfl (u8s xs) _ hR2 Try.underlying44 rfl (by rw [size44, length_u8s, hL]) ?_)
            | (with_reducible show wpList _ _ _ (⟨some 32, _, _, _, _, _⟩ :: _) _ _; refine wpL_look_some rfl _ _ 25 rfl Try.underlying25 vc rfl qc xs hL rfl x hf ?_)
            | (with_reducible show wpList _ _ _ (⟨some 38, _, _, _, _, _⟩ :: _) _ _; refine wpL_look_none rfl _ _ 25 rfl Try.underlying25 vd rfl qd xs hL rfl hg ?_)
            | (with_reducible show wpList _ _ _ (⟨some 44, _, _, _, _, _⟩ :: _) _ _; refine wpL_look_some rfl _ _ 25 rfl Try.underlying25 vu rfl qu xs hL rfl x hj ?_)
            | go_in)
          go_roundw
          case rel => exact ⟨k + 1, by omega, by go_num, hnx3⟩
          case measure => simp [intOf]; omega
        | some y =>
          by_cases hyx : y < x
          · have hj : join f g xs = some y := by simp [join, hf, hg, hyx]
            go_wp2_with (first
              | (with_reducible show wpList _ _ _ (⟨_, .load 44 (.tmp 10), _, _, _, _⟩ :: _) _ _; refine wpL_load rfl 44 _ rfl B2 0 rfl (u8s xs) _ hR2 Try.underlying44 rfl (by rw [size44, length_u8s, hL]) ?_)
              | (with_reducible show wpList _ _ _ (⟨some 32, _, _, _, _, _⟩ :: _) _ _; refine wpL_look_some rfl _ _ 25 rfl Try.underlying25 vc rfl qc xs hL rfl x hf ?_)
              | (with_reducible show wpList _ _ _ (⟨some 38, _, _, _, _, _⟩ :: _) _ _; refine wpL_look_some rfl _ _ 25 rfl Try.underlying25 vd rfl qd xs hL rfl y hg ?_)
              | (with_reducible show wpList _ _ _ (⟨some 44, _, _, _, _, _⟩ :: _) _ _; refine wpL_look_some rfl _ _ 25 rfl Try.underlying25 vu rfl qu xs hL rfl y hj ?_)
              | go_in)
            go_roundw
            case rel => exact ⟨k + 1, by omega, by go_num, hnx3⟩
            case measure => simp [intOf]; omega
          · have hj : join f g xs = some x := by simp [join, hf, hg, hyx]
            go_wp2_with (first
              | (with_reducible show wpList _ _ _ (⟨_, .load 44 (.tmp 10), _, _, _, _⟩ :: _) _ _; refine wpL_load rfl 44 _ rfl B2 0 rfl (u8s xs) _ hR2 Try.underlying44 rfl (by rw [size44, length_u8s, hL]) ?_)
              | (with_reducible show wpList _ _ _ (⟨some 32, _, _, _, _, _⟩ :: _) _ _; refine wpL_look_some rfl _ _ 25 rfl Try.underlying25 vc rfl qc xs hL rfl x hf ?_)
              | (with_reducible show wpList _ _ _ (⟨some 38, _, _, _, _, _⟩ :: _) _ _; refine wpL_look_some rfl _ _ 25 rfl Try.underlying25 vd rfl qd xs hL rfl y hg ?_)
              | (with_reducible show wpList _ _ _ (⟨some 44, _, _, _, _, _⟩ :: _) _ _; refine wpL_look_some rfl _ _ 25 rfl Try.underlying25 vu rfl qu xs hL rfl x hj ?_)
              | go_in)
            go_roundw
            case rel => exact ⟨k + 1, by omega, by go_num, hnx3⟩
            case measure => simp [intOf]; omega
    · obtain rfl : k = ks.length := by omega
      go_wp2
      go_ret
      exact ⟨rfl, hnx⟩

end Go.Proofs.Qxb6602613a.Ver
