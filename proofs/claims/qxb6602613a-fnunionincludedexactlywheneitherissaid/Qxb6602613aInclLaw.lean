/-
  FnUnionIncludedExactlyWhenEitherIs, walked.
-/
import Derived.Test.Qxb6602613aMinLaw
namespace Go.Proofs.Qxb6602613a.Ver
open Go.RowKit
open Go.Proofs.Qxb6602613a.Mid

theorem c15n {n : Nat} (B : Nat) (vh vs : Value) (h s : Fn) (N M : Nat) (l : Loc) (ks : List (List UInt8)) (e1 : ks.length = n) (p : Bool) (hp : Hid (p = true ↔ Includes h s ks)) (w : World) (hB : B ≤ w.heap.size) (hm : n ≤ 131072)
    (hh : Held B w vh h N) (hs : Held B w vs s M) (hk : KeysLie B w l ks) :
    Calls Try.prog 15 #[vh, vs, .slice l.ao n l.cap] w fun e w' => e = .returned (.bool p) ∧ Below w.heap.size w w' := by
  subst e1
  exact c15 B vh vs h s N M l ks p hp w hB hm hh hs hk

/-- The plain law: h includes some of the join just if it includes some of either. -/
theorem includes_join (h f g : Fn) (ck dk : List (List UInt8)) (sf : ∀ x, (f x).isSome = true ↔ x ∈ ck) (sg : ∀ x, (g x).isSome = true ↔ x ∈ dk) :
    (Includes h (join f g) ck ∨ Includes h (join f g) dk) ↔ (Includes h f ck ∨ Includes h g dk) := by
  constructor
  · have key : ∀ x n, join f g x = some n → n ≤ (h x).getD 0 → Includes h f ck ∨ Includes h g dk := by
      intro x n hn hle
      unfold join at hn
      cases hf : f x with
      | none =>
        rw [hf] at hn
        have hn : g x = some n := hn
        exact Or.inr ⟨x, (sg x).1 (by rw [hn]; rfl), n, hn, hle⟩
      | some a =>
        cases hg : g x with
        | none =>
          rw [hf, hg] at hn
          exact Or.inl ⟨x, (sf x).1 (by rw [hf]; rfl), n, hf.trans hn, hle⟩
        | some b =>
          rw [hf, hg] at hn
          simp only at hn
          by_cases e : b < a
          · rw [if_pos e] at hn
            exact Or.inr ⟨x, (sg x).1 (by rw [hg]; rfl), n, hg.trans hn, hle⟩
          · rw [if_neg e] at hn
            exact Or.inl ⟨x, (sf x).1 (by rw [hf]; rfl), n, hf.trans hn, hle⟩
    rintro (⟨x, _, n, hn, hle⟩ | ⟨x, _, n, hn, hle⟩)
    · exact key x n hn hle
    · exact key x n hn hle
  · rintro (⟨x, hx, n, hn, hle⟩ | ⟨x, hx, n, hn, hle⟩)
    · left
      refine ⟨x, hx, ?_⟩
      unfold join
      rw [hn]
      cases hg : g x with
      | none => exact ⟨n, rfl, hle⟩
      | some b =>
        simp only
        by_cases e : b < n
        · rw [if_pos e]; exact ⟨b, rfl, by omega⟩
        · rw [if_neg e]; exact ⟨n, rfl, hle⟩
    · right
      refine ⟨x, hx, ?_⟩
      unfold join
      rw [hn]
      cases hf : f x with
      | none => exact ⟨n, rfl, hle⟩
      | some a =>
        simp only
        by_cases e : n < a
        · rw [if_pos e]; exact ⟨n, rfl, hle⟩
        · rw [if_neg e]; exact ⟨a, rfl, by omega⟩

set_option maxRecDepth 100000 in
set_option maxHeartbeats 8000000 in
theorem law4 (l1 l2 l3 l4 l5 l6 : Loc) (ck dk hk : List (List UInt8)) (cv dv hv : List Int) (n1 m1 n2 m2 n3 m3 : Nat) (E1 : Hid (ck.length = n1)) (E2 : Hid (cv.length = m1)) (E3 : Hid (dk.length = n2)) (E4 : Hid (dv.length = m2)) (E5 : Hid (hk.length = n3)) (E6 : Hid (hv.length = m3)) (w : World)
    (h1 : KeysLie w.heap.size w l1 ck) (h2 : NumsLie w.heap.size w l2 cv) (h3 : KeysLie w.heap.size w l3 dk) (h4 : NumsLie w.heap.size w l4 dv) (h5 : KeysLie w.heap.size w l5 hk) (h6 : NumsLie w.heap.size w l6 hv) :
    Calls Try.prog 4 #[.slice l1.ao n1 l1.cap, .slice l2.ao m1 l2.cap, .slice l3.ao n2 l3.cap, .slice l4.ao m2 l4.cap, .slice l5.ao n3 l5.cap, .slice l6.ao m3 l6.cap] w fun e w' => e = .returned (.bool true) ∧ Below w.heap.size w w' := by
  have hmm := @run_makeMap Try.prog
  go_enter Try.func4, Try.ntmps4
  go_wp2_with fail
  refine (c14 _ _ _ _ _ _ _ _ _ _ _ _ _ _ _ _ _ _ w).mono ?_
  rintro e w1 ⟨⟨q, rfl⟩, rfl⟩
  cases q with
  | false =>
    go_wp2
    go_ret
    exact ⟨rfl, Below.refl _ _⟩
  | true =>
    by_cases b0 : 131072 < n1
    · go_wp2
      go_ret
      exact ⟨rfl, Below.refl _ _⟩
    by_cases b1 : 131072 < m1
    · go_wp2
      go_ret
      exact ⟨rfl, Below.refl _ _⟩
    by_cases b2 : 131072 < n2
    · go_wp2
      go_ret
      exact ⟨rfl, Below.refl _ _⟩
    by_cases b3 : 131072 < m2
    · go_wp2
      go_ret
      exact ⟨rfl, Below.refl _ _⟩
    by_cases b4 : 131072 < n3
    · go_wp2
      go_ret
      exact ⟨rfl, Below.refl _ _⟩
    by_cases b5 : 131072 < m3
    · go_wp2
      go_ret
      exact ⟨rfl, Below.refl _ _⟩
    by_cases bs : 1048576 < 12 * (n1 : Int) + 8 * (m1 : Int) + 12 * (n2 : Int) + 8 * (m2 : Int) + 12 * (n3 : Int) + 8 * (m3 : Int)
    · go_wp2
      go_ret
      exact ⟨rfl, Below.refl _ _⟩
    by_cases x1 : n1 ≠ m1
    · go_wp2
      go_ret
      exact ⟨rfl, Below.refl _ _⟩
    obtain rfl : n1 = m1 := Decidable.not_not.1 x1
    clear x1
    by_cases x2 : n2 ≠ m2
    · go_wp2
      go_ret
      exact ⟨rfl, Below.refl _ _⟩
    obtain rfl : n2 = m2 := Decidable.not_not.1 x2
    clear x2
    by_cases x3 : n3 ≠ m3
    · go_wp2
      go_ret
      exact ⟨rfl, Below.refl _ _⟩
    obtain rfl : n3 = m3 := Decidable.not_not.1 x3
    clear x3
    go_wp2_with fail
    refine (c10n l1 l2 ck cv E1.out E2.out w.heap.size w (Nat.le_refl _) (by omega) h1 h2).mono ?_
    rintro e w2 ⟨vc, rfl, hc, hb2⟩
    go_wp2_with fail
    refine (c10n l3 l4 dk dv E3.out E4.out w.heap.size w2 hb2.size (by omega) (h3.below hb2 (Nat.le_refl _)) (h4.below hb2 (Nat.le_refl _))).mono ?_
    rintro e w2' ⟨vd, rfl, hd, hb2'⟩
    have hnx2 := hb2.trans (hb2'.mono hb2.size)
    go_wp2_with fail
    refine (c10n l5 l6 hk hv E5.out E6.out w.heap.size w2' hnx2.size (by omega) (h5.below hnx2 (Nat.le_refl _)) (h6.below hnx2 (Nat.le_refl _))).mono ?_
    rintro e w3 ⟨vh, rfl, hh, hb3⟩
    have hnx3 := hnx2.trans (hb3.mono hnx2.size)
    have hd3 := (hd.below hb3 (Nat.le_refl _)).mono hb3.size (Nat.le_refl _)
    have hc3 := (hc.below (hb2'.trans (hb3.mono hb2'.size)) (Nat.le_refl _)).mono (Nat.le_trans hb2'.size hb3.size) (Nat.le_refl _)
    have sf := built_all (ks := ck) (vs := cv) (E1.out.trans E2.out.symm)
    have sg := built_all (ks := dk) (vs := dv) (E3.out.trans E4.out.symm)
    generalize built ck cv ck.length = f at *
    generalize built dk dv dk.length = g at *
    generalize built hk hv hk.length = h at *
    go_wp2_with fail
    refine (c11 w3.heap.size vc vd f g n1 n2 w3 (Nat.le_refl _) (by omega) hc3 hd3).mono ?_
    rintro e w4 ⟨vu, rfl, hu, _, hb4⟩
    have hnx4 := hnx3.trans (hb4.mono hnx3.size)
    have qc := (hc3.below hb4 (Nat.le_refl _)).mono hb4.size (Nat.le_refl _)
    have qd := (hd3.below hb4 (Nat.le_refl _)).mono hb4.size (Nat.le_refl _)
    have qh := (hh.below hb4 (Nat.le_refl _)).mono hb4.size (Nat.le_refl _)
    have k1 := (h1.below hnx4 (Nat.le_refl _)).mono hnx4.size
    have k3 := (h3.below hnx4 (Nat.le_refl _)).mono hnx4.size
    have hI0 := includes_join h f g ck dk sf sg
    clear hb2 hb2' hb3 hb4 hnx2 hnx3 hc hd hh hc3 hd3
    have hA : Below w4.heap.size w4 (w4.alloc (.map #[] 0)) := (Below.refl _ _).alloc (Nat.le_refl _) _
    go_wp2_with fail
    refine (c13n w4.heap.size w4.heap.size 0 vu (join f g) _ l1 ck E1.out seen0 (w4.alloc (.map #[] 0)) (Nat.le_refl _) (by omega) (by omega) (hu.below hA (Nat.le_refl _)) (k1.below hA (Nat.le_refl _)) (seen_made w4)).mono ?_
    rintro e w7 ⟨c1, rfl, sn1, hm1, hT1, hS1, hb7⟩
    have hb47 : Below w4.heap.size w4 w7 := hA.trans hb7
    go_wp2_with fail
    refine (c13n w4.heap.size w4.heap.size (0 + n1) vu (join f g) _ l3 dk E3.out sn1 w7 (Nat.le_refl _) (by omega) (by omega) (hu.below hb47 (Nat.le_refl _)) (k3.below hb47 (Nat.le_refl _)) hS1).mono ?_
    rintro e w8 ⟨c2, rfl, sn2, hm2, hT2, hS2, hb8⟩
    have hb48 : Below w4.heap.size w4 w8 := hb47.trans hb8
    have hcard : Tied (join f g) (c1 + c2) := (hT1.then hT2).tied (fun x hx => by
      rw [join_some, sf, sg] at hx
      exact List.mem_append.2 hx)
    have lu := (hu.below hb48 (Nat.le_refl _)).len hcard Try.underlying27
    clear hS1 hS2 hT1 hT2 hb7 hb8 hb47 hA hcard
    obtain ⟨p1, hp1'⟩ := bool_of (Includes h (join f g) ck)
    obtain ⟨p2, hp2'⟩ := bool_of (Includes h (join f g) dk)
    obtain ⟨pc, hpc'⟩ := bool_of (Includes h f ck)
    obtain ⟨pd, hpd'⟩ := bool_of (Includes h g dk)
    have hI : Hid ((p1 || p2) = (pc || pd)) := by
      show (p1 || p2) = (pc || pd)
      rw [Bool.eq_iff_iff, Bool.or_eq_true, Bool.or_eq_true, hp1', hp2', hpc', hpd']
      exact hI0
    have hp1 : Hid (p1 = true ↔ Includes h (join f g) ck) := hp1'
    have hp2 : Hid (p2 = true ↔ Includes h (join f g) dk) := hp2'
    have hpc : Hid (pc = true ↔ Includes h f ck) := hpc'
    have hpd : Hid (pd = true ↔ Includes h g dk) := hpd'
    clear hI0 hp1' hp2' hpc' hpd'
    go_wp2_with fail
    refine (c15n w4.heap.size vh vu h (join f g) _ _ l1 ck E1.out p1 hp1 w8 hb48.size (by omega) (qh.below hb48 (Nat.le_refl _)) (hu.below hb48 (Nat.le_refl _)) (k1.below hb48 (Nat.le_refl _))).mono ?_
    rintro e w9 ⟨rfl, hb9'⟩
    have hb9 : Below w4.heap.size w4 w9 := hb48.trans (hb9'.mono hb48.size)
    clear hb9' hb48 lu
    cases p1 with
    | true =>
      go_wp2_with fail
      refine (c15n w4.heap.size vh vc h f _ _ l1 ck E1.out pc hpc w9 hb9.size (by omega) (qh.below hb9 (Nat.le_refl _)) (qc.below hb9 (Nat.le_refl _)) (k1.below hb9 (Nat.le_refl _))).mono ?_
      rintro e wA ⟨rfl, hbA'⟩
      have hbA : Below w4.heap.size w4 wA := hb9.trans (hbA'.mono hb9.size)
      go_wp2_with fail
      refine (c15n w4.heap.size vh vd h g _ _ l3 dk E3.out pd hpd wA hbA.size (by omega) (qh.below hbA (Nat.le_refl _)) (qd.below hbA (Nat.le_refl _)) (k3.below hbA (Nat.le_refl _))).mono ?_
      rintro e wB ⟨rfl, hbB'⟩
      have hbB : Below w4.heap.size w4 wB := hbA.trans (hbB'.mono hbA.size)
      have hend := hnx4.trans (hbB.mono hnx4.size)
      clear hbA' hbB' hbA hbB
      cases pc with
      | false =>
        cases pd with
        | false =>
          exact absurd hI.out (by simp)
        | true =>
          go_wp2
          go_ret
          exact ⟨rfl, hend⟩
      | true =>
        cases pd with
        | false =>
          go_wp2
          go_ret
          exact ⟨rfl, hend⟩
        | true =>
          go_wp2
          go_ret
          exact ⟨rfl, hend⟩
    | false =>
      go_wp2_with fail
      refine (c15n w4.heap.size vh vu h (join f g) _ _ l3 dk E3.out p2 hp2 w9 hb9.size (by omega) (qh.below hb9 (Nat.le_refl _)) (hu.below hb9 (Nat.le_refl _)) (k3.below hb9 (Nat.le_refl _))).mono ?_
      rintro e w10 ⟨rfl, hb10'⟩
      have hb10 : Below w4.heap.size w4 w10 := hb9.trans (hb10'.mono hb9.size)
      clear hb10' hb9
      cases p2 with
      | true =>
        go_wp2_with fail
        refine (c15n w4.heap.size vh vc h f _ _ l1 ck E1.out pc hpc w10 hb10.size (by omega) (qh.below hb10 (Nat.le_refl _)) (qc.below hb10 (Nat.le_refl _)) (k1.below hb10 (Nat.le_refl _))).mono ?_
        rintro e wA ⟨rfl, hbA'⟩
        have hbA : Below w4.heap.size w4 wA := hb10.trans (hbA'.mono hb10.size)
        go_wp2_with fail
        refine (c15n w4.heap.size vh vd h g _ _ l3 dk E3.out pd hpd wA hbA.size (by omega) (qh.below hbA (Nat.le_refl _)) (qd.below hbA (Nat.le_refl _)) (k3.below hbA (Nat.le_refl _))).mono ?_
        rintro e wB ⟨rfl, hbB'⟩
        have hbB : Below w4.heap.size w4 wB := hbA.trans (hbB'.mono hbA.size)
        have hend := hnx4.trans (hbB.mono hnx4.size)
        clear hbA' hbB' hbA hbB
        cases pc with
        | false =>
          cases pd with
          | false =>
            exact absurd hI.out (by simp)
          | true =>
            go_wp2
            go_ret
            exact ⟨rfl, hend⟩
        | true =>
          cases pd with
          | false =>
            go_wp2
            go_ret
            exact ⟨rfl, hend⟩
          | true =>
            go_wp2
            go_ret
            exact ⟨rfl, hend⟩
      | false =>
        go_wp2_with fail
        refine (c15n w4.heap.size vh vc h f _ _ l1 ck E1.out pc hpc w10 hb10.size (by omega) (qh.below hb10 (Nat.le_refl _)) (qc.below hb10 (Nat.le_refl _)) (k1.below hb10 (Nat.le_refl _))).mono ?_
        rintro e wA ⟨rfl, hbA'⟩
        have hbA : Below w4.heap.size w4 wA := hb10.trans (hbA'.mono hb10.size)
        go_wp2_with fail
        refine (c15n w4.heap.size vh vd h g _ _ l3 dk E3.out pd hpd wA hbA.size (by omega) (qh.below hbA (Nat.le_refl _)) (qd.below hbA (Nat.le_refl _)) (k3.below hbA (Nat.le_refl _))).mono ?_
        rintro e wB ⟨rfl, hbB'⟩
        have hbB : Below w4.heap.size w4 wB := hbA.trans (hbB'.mono hbA.size)
        have hend := hnx4.trans (hbB.mono hnx4.size)
        clear hbA' hbB' hbA hbB
        cases pc with
        | false =>
          cases pd with
          | false =>
            go_wp2
            go_ret
            exact ⟨rfl, hend⟩
          | true =>
            exact absurd hI.out (by simp)
        | true =>
          cases pd with
          | false =>
            exact absurd hI.out (by simp)
          | true =>
            exact absurd hI.out (by simp)

end Go.Proofs.Qxb6602613a.Ver
