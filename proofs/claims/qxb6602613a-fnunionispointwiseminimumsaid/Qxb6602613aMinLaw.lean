/-
  FnUnionIsPointwiseMinimum, walked.
-/
import Derived.Test.Qxb6602613aCount
import Derived.Test.Qxb6602613aZz
namespace Go.Proofs.Qxb6602613a.Ver
open Go.RowKit
open Go.Proofs.Qxb6602613a.Mid

theorem built_some {ks : List (List UInt8)} {vs : List Int} (hn : ks.length = vs.length) (x : List UInt8) : ∀ k, k ≤ ks.length → ((built ks vs k x).isSome = true ↔ x ∈ ks.take k)
  | 0, _ => by simp [built, nil0]
  | k + 1, hk => by
    have ih := built_some hn x k (by omega)
    rw [built_succ ks vs k (by omega) (by omega), List.take_succ_eq_append_getElem (by omega), List.mem_append, List.mem_singleton, Fn.set]
    by_cases e : x = ks[k]
    · rw [if_pos e]; simp [e]
    · rw [if_neg e, ih]; simp [e]
theorem built_all {ks : List (List UInt8)} {vs : List Int} (hn : ks.length = vs.length) (x : List UInt8) : (built ks vs ks.length x).isSome = true ↔ x ∈ ks := by
  rw [built_some hn x _ (Nat.le_refl _), List.take_length]
theorem join_some (f g : Fn) (x : List UInt8) : (join f g x).isSome = true ↔ (f x).isSome = true ∨ (g x).isSome = true := by
  unfold join
  cases f x <;> cases g x <;> simp

/-! ### the contracts with lengths as numbers -/
theorem c10n {n : Nat} (l1 l2 : Loc) (ks : List (List UInt8)) (vs : List Int) (e1 : ks.length = n) (e2 : vs.length = n) (B : Nat) (w : World) (hB : B ≤ w.heap.size) (hm : n ≤ 131072) (h1 : KeysLie B w l1 ks) (h2 : NumsLie B w l2 vs) :
    Calls Try.prog 10 #[.slice l1.ao n l1.cap, .slice l2.ao n l2.cap] w fun e w' => ∃ v, e = .returned v ∧ (Held w'.heap.size w' v (built ks vs ks.length) n ∧ Below w.heap.size w w') := by
  subst e1
  have := c10 l1 l2 ks vs B w hB e2.symm hm h1 h2
  rw [e2] at this
  exact this
theorem c12n {n : Nat} (B : Nat) (vu vc vd : Value) (f g : Fn) (K N M : Nat) (l : Loc) (ks : List (List UInt8)) (e1 : ks.length = n) (w : World) (hB : B ≤ w.heap.size) (hm : n ≤ 131072)
    (hu : Held B w vu (join f g) K) (hc : Held B w vc f N) (hd : Held B w vd g M) (hk : KeysLie B w l ks) (hin : ∀ x ∈ ks, (f x).isSome = true ∨ (g x).isSome = true) :
    Calls Try.prog 12 #[vu, vc, vd, .slice l.ao n l.cap] w fun e w' => e = .returned (.bool true) ∧ Below w.heap.size w w' := by
  subst e1
  exact c12 B vu vc vd f g K N M l ks w hB hm hu hc hd hk (fun i hi => hin _ (List.getElem_mem hi))
theorem c13n {k : Nat} (B sb n : Nat) (v : Value) (f : Fn) (N : Nat) (l : Loc) (ks : List (List UInt8)) (e1 : ks.length = k) (sn : Seen) (w : World) (hB : B ≤ sb) (hm : k ≤ 131072) (hn : n ≤ 1048576) (hf : Held B w v f N) (hk : KeysLie B w l ks) (hs : SeenAt w sb n sn) :
    Calls Try.prog 13 #[v, .slice l.ao k l.cap, .map (some sb)] w fun e w' => ∃ m : Nat, e = .returned (.int .i64 m) ∧ (∃ sn', m ≤ k ∧ Tally f sn ks m sn' ∧ SeenAt w' sb (n + k) sn' ∧ Below sb w w') := by
  subst e1
  exact c13 B sb n v f N l ks sn w hB hm hn hf hk hs

set_option maxRecDepth 100000 in
set_option maxHeartbeats 4000000 in
theorem law3 (l1 l2 l3 l4 : Loc) (ck dk : List (List UInt8)) (cv dv : List Int) (n1 m1 n2 m2 : Nat) (E1 : Hid (ck.length = n1)) (E2 : Hid (cv.length = m1)) (E3 : Hid (dk.length = n2)) (E4 : Hid (dv.length = m2)) (w : World) (h1 : KeysLie w.heap.size w l1 ck) (h2 : NumsLie w.heap.size w l2 cv) (h3 : KeysLie w.heap.size w l3 dk) (h4 : NumsLie w.heap.size w l4 dv) :
    Calls Try.prog 3 #[.slice l1.ao n1 l1.cap, .slice l2.ao m1 l2.cap, .slice l3.ao n2 l3.cap, .slice l4.ao m2 l4.cap] w fun e w' => e = .returned (.bool true) ∧ Below w.heap.size w w' := by
  have hmm := @run_makeMap Try.prog
  go_enter Try.func3, Try.ntmps3
  go_wp2_with fail
  refine (c9 _ _ _ _ _ _ _ _ _ _ _ _ w).mono ?_
  rintro e w1 ⟨⟨q, rfl⟩, rfl⟩
  cases q with
  | false =>
    go_wp2
    go_ret
    exact ⟨rfl, Below.refl _ _⟩
  | true =>
    by_cases b1 : 131072 < n1
    · go_wp2
      go_ret
      exact ⟨rfl, Below.refl _ _⟩
    by_cases b2 : 131072 < m1
    · go_wp2
      go_ret
      exact ⟨rfl, Below.refl _ _⟩
    by_cases b3 : 131072 < n2
    · go_wp2
      go_ret
      exact ⟨rfl, Below.refl _ _⟩
    by_cases b4 : 131072 < m2
    · go_wp2
      go_ret
      exact ⟨rfl, Below.refl _ _⟩
    by_cases b5 : 1048576 < 12 * (n1 : Int) + 8 * (m1 : Int) + 12 * (n2 : Int) + 8 * (m2 : Int)
    · go_wp2
      go_ret
      exact ⟨rfl, Below.refl _ _⟩
    by_cases b6 : n1 = m1
    · by_cases b7 : n2 = m2
      · subst b6
        subst b7
        go_wp2_with fail
        refine (c10n l1 l2 ck cv E1.out E2.out w.heap.size w (Nat.le_refl _) (by omega) h1 h2).mono ?_
        rintro e w2 ⟨vc, rfl, hc, hb2⟩
        go_wp2_with fail
        refine (c10n l3 l4 dk dv E3.out E4.out w.heap.size w2 hb2.size (by omega) (h3.below hb2 (Nat.le_refl _)) (h4.below hb2 (Nat.le_refl _))).mono ?_
        rintro e w3 ⟨vd, rfl, hd, hb3⟩
        have hc3 := (hc.below hb3 (Nat.le_refl _)).mono hb3.size (Nat.le_refl _)
        have hnx3 := hb2.trans (hb3.mono hb2.size)
        have sf := built_all (ks := ck) (vs := cv) (E1.out.trans E2.out.symm)
        have sg := built_all (ks := dk) (vs := dv) (E3.out.trans E4.out.symm)
        generalize built ck cv ck.length = f at *
        generalize built dk dv dk.length = g at *
        go_wp2_with fail
        refine (c11 w3.heap.size vc vd f g n1 n2 w3 (Nat.le_refl _) (by omega) hc3 hd).mono ?_
        rintro e w4 ⟨vu, rfl, hu, hnil, hb4⟩
        have hnx4 := hnx3.trans (hb4.mono hnx3.size)
        have qc := (hc3.below hb4 (Nat.le_refl _)).mono hb4.size (Nat.le_refl _)
        have qd := (hd.below hb4 (Nat.le_refl _)).mono hb4.size (Nat.le_refl _)
        have k1 := (h1.below hnx4 (Nat.le_refl _)).mono hnx4.size
        have k3 := (h3.below hnx4 (Nat.le_refl _)).mono hnx4.size
        obtain ⟨s1, t1, _⟩ := qc.tied
        obtain ⟨s2, t2, _⟩ := qd.tied
        have lc := qc.len t1 Try.underlying25
        have ld := qd.len t2 Try.underlying25
        clear hb2 hb3 hb4 hnx3 hc hd hc3
        by_cases z1 : s1 = 0
        · by_cases z2 : s2 = 0
          · obtain rfl := hnil ((tied_zero t1).1 z1) ((tied_zero t2).1 z2)
            rw [z1] at lc
            rw [z2] at ld
            have heq : ∀ w, (binOp .eql 27 (.map none) (.map none)).run Try.prog w = .ok (.bool true) w := fun w => by kernel_rfl
            go_wp2
            go_ret
            exact ⟨rfl, hnx4⟩
          · rw [z1] at lc
            have z2' : ¬ ((s2 : Int) = 0) := by omega
            go_wp2_with fail
            refine (c12n w4.heap.size vu vc vd f g _ _ _ l1 ck E1.out w4 (Nat.le_refl _) (by omega) hu qc qd k1 (fun x hx => Or.inl ((sf x).2 hx))).mono ?_
            rintro e w5 ⟨rfl, hb5⟩
            go_wp2_with fail
            refine (c12n w4.heap.size vu vc vd f g _ _ _ l3 dk E3.out w5 hb5.size (by omega) (hu.below hb5 (Nat.le_refl _)) (qc.below hb5 (Nat.le_refl _)) (qd.below hb5 (Nat.le_refl _)) (k3.below hb5 (Nat.le_refl _)) (fun x hx => Or.inr ((sg x).2 hx))).mono ?_
            rintro e w6 ⟨rfl, hb6⟩
            have hb46 : Below w4.heap.size w4 w6 := hb5.trans (hb6.mono hb5.size)
            have hA : Below w6.heap.size w6 (w6.alloc (.map #[] 0)) := (Below.refl _ _).alloc (Nat.le_refl _) _
            have hb4A : Below w4.heap.size w4 (w6.alloc (.map #[] 0)) := hb46.trans (hA.mono hb46.size)
            go_wp2_with fail
            refine (c13n w4.heap.size w6.heap.size 0 vu (join f g) _ l1 ck E1.out seen0 (w6.alloc (.map #[] 0)) hb46.size (by omega) (by omega) (hu.below hb4A (Nat.le_refl _)) (k1.below hb4A (Nat.le_refl _)) (seen_made w6)).mono ?_
            rintro e w7 ⟨m1, rfl, sn1, hm1, hT1, hS1, hb7⟩
            have hb47 : Below w4.heap.size w4 w7 := hb4A.trans (hb7.mono hb46.size)
            go_wp2_with fail
            refine (c13n w4.heap.size w6.heap.size (0 + n1) vu (join f g) _ l3 dk E3.out sn1 w7 hb46.size (by omega) (by omega) (hu.below hb47 (Nat.le_refl _)) (k3.below hb47 (Nat.le_refl _)) hS1).mono ?_
            rintro e w8 ⟨m2, rfl, sn2, hm2, hT2, hS2, hb8⟩
            have hb48 : Below w4.heap.size w4 w8 := hb47.trans (hb8.mono hb46.size)
            have hcard : Tied (join f g) (m1 + m2) := (hT1.then hT2).tied (fun x hx => by
              rw [join_some, sf, sg] at hx
              exact List.mem_append.2 hx)
            have lu := (hu.below hb48 (Nat.le_refl _)).len hcard Try.underlying27
            have hend := hnx4.trans (hb48.mono hnx4.size)
            clear hS1 hS2 hT1 hT2 hb7 hb8 hb46 hb47 hb48 hA hb4A hb5 hb6 hcard
            go_wp2
            go_ret
            refine ⟨?_, hend⟩
            simp
        · have z1' : ¬ ((s1 : Int) = 0) := by omega
          go_wp2_with fail
          refine (c12n w4.heap.size vu vc vd f g _ _ _ l1 ck E1.out w4 (Nat.le_refl _) (by omega) hu qc qd k1 (fun x hx => Or.inl ((sf x).2 hx))).mono ?_
          rintro e w5 ⟨rfl, hb5⟩
          go_wp2_with fail
          refine (c12n w4.heap.size vu vc vd f g _ _ _ l3 dk E3.out w5 hb5.size (by omega) (hu.below hb5 (Nat.le_refl _)) (qc.below hb5 (Nat.le_refl _)) (qd.below hb5 (Nat.le_refl _)) (k3.below hb5 (Nat.le_refl _)) (fun x hx => Or.inr ((sg x).2 hx))).mono ?_
          rintro e w6 ⟨rfl, hb6⟩
          have hb46 : Below w4.heap.size w4 w6 := hb5.trans (hb6.mono hb5.size)
          have hA : Below w6.heap.size w6 (w6.alloc (.map #[] 0)) := (Below.refl _ _).alloc (Nat.le_refl _) _
          have hb4A : Below w4.heap.size w4 (w6.alloc (.map #[] 0)) := hb46.trans (hA.mono hb46.size)
          go_wp2_with fail
          refine (c13n w4.heap.size w6.heap.size 0 vu (join f g) _ l1 ck E1.out seen0 (w6.alloc (.map #[] 0)) hb46.size (by omega) (by omega) (hu.below hb4A (Nat.le_refl _)) (k1.below hb4A (Nat.le_refl _)) (seen_made w6)).mono ?_
          rintro e w7 ⟨m1, rfl, sn1, hm1, hT1, hS1, hb7⟩
          have hb47 : Below w4.heap.size w4 w7 := hb4A.trans (hb7.mono hb46.size)
          go_wp2_with fail
          refine (c13n w4.heap.size w6.heap.size (0 + n1) vu (join f g) _ l3 dk E3.out sn1 w7 hb46.size (by omega) (by omega) (hu.below hb47 (Nat.le_refl _)) (k3.below hb47 (Nat.le_refl _)) hS1).mono ?_
          rintro e w8 ⟨m2, rfl, sn2, hm2, hT2, hS2, hb8⟩
          have hb48 : Below w4.heap.size w4 w8 := hb47.trans (hb8.mono hb46.size)
          have hcard : Tied (join f g) (m1 + m2) := (hT1.then hT2).tied (fun x hx => by
            rw [join_some, sf, sg] at hx
            exact List.mem_append.2 hx)
          have lu := (hu.below hb48 (Nat.le_refl _)).len hcard Try.underlying27
          have hend := hnx4.trans (hb48.mono hnx4.size)
          clear hS1 hS2 hT1 hT2 hb7 hb8 hb46 hb47 hb48 hA hb4A hb5 hb6 hcard
          go_wp2
          go_ret
          refine ⟨?_, hend⟩
          simp
      · go_wp2
        go_ret
        exact ⟨rfl, Below.refl _ _⟩
    · go_wp2
      go_ret
      exact ⟨rfl, Below.refl _ _⟩

end Go.Proofs.Qxb6602613a.Ver
