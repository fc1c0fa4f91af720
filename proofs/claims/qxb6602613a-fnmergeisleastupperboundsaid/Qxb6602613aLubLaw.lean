/-
  FnMergeIsLeastUpperBound, walked.
-/
import Derived.Test.Qxb6602613aMinLaw
import Derived.Test.Qxb6602613aMerge
namespace Go.Proofs.Qxb6602613a.Ver
open Go.RowKit
open Go.Proofs.Qxb6602613a.Mid

theorem Held.step {w w' : World} {v : Value} {f : Fn} {N : Nat} (h : Held w.heap.size w v f N) (hb : Below w.heap.size w w') : Held w'.heap.size w' v f N := (h.below hb (Nat.le_refl _)).mono hb.size (Nat.le_refl _)

/-- The bool p says q. -/
def Says (p : Bool) (q : Prop) : Prop := p = true ↔ q

/-- Compare's answer where the second has no more. -/
def half (p : Bool) : Int := if p then 2 else 0
theorem half_true : half true = 2 := rfl
theorem half_false : half false = 0 := rfl
theorem half_eq (p : Bool) : half p = order p false := by cases p <;> rfl
theorem c20z (B : Nat) (v1 v2 : Value) (f g : Fn) (N M : Nat) (p q : Bool) (z : Int) (hp : Hid (p = true ↔ More f g)) (hq : Hid (q = true ↔ More g f)) (hz : z = order p q) (w : World) (hB : B ≤ w.heap.size) (h1 : Held B w v1 f N) (h2 : Held B w v2 g M) :
    Calls Try.prog 20 #[v1, v2] w fun e w' => e = .returned (.int .i64 z) ∧ Below w.heap.size w w' := by
  subst hz
  exact c20 B v1 v2 f g N M p q hp hq w hB h1 h2
theorem c21r (p q r : Bool) (hr : (!p) = r) (w : World) : Calls Try.prog 21 #[.int .i64 (order p q)] w fun e w' => e = .returned (.bool r) ∧ w = w' := by
  subst hr
  exact c21 p q w

/-- The plain law: what Compare tells of a merge. -/
theorem merge_more {m f g h : Fn} (hM : IsMerge m f g) (hf : ∀ x, 0 ≤ at0 f x) (hg : ∀ x, 0 ≤ at0 g x) (hh : ∀ x, 0 ≤ at0 h x) (hm : ∀ x, 0 ≤ at0 m x) :
    (More m f ↔ More g f) ∧ (More m g ↔ More f g) ∧ ¬ More f m ∧ ¬ More g m ∧ (More m h ↔ More f h ∨ More g h) := by
  have key : ∀ x, at0 m x = if at0 f x < at0 g x then at0 g x else at0 f x := hM
  refine ⟨?_, ?_, ?_, ?_, ?_⟩
  · rw [more_at hf, more_at hf]
    constructor
    · rintro ⟨x, hx⟩
      have := key x
      exact ⟨x, by split at this <;> omega⟩
    · rintro ⟨x, hx⟩
      have := key x
      exact ⟨x, by rw [if_pos hx] at this; omega⟩
  · rw [more_at hg, more_at hg]
    constructor
    · rintro ⟨x, hx⟩
      have := key x
      exact ⟨x, by split at this <;> omega⟩
    · rintro ⟨x, hx⟩
      have := key x
      exact ⟨x, by split at this <;> omega⟩
  · rw [more_at hm]
    rintro ⟨x, hx⟩
    have := key x
    split at this <;> omega
  · rw [more_at hm]
    rintro ⟨x, hx⟩
    have := key x
    split at this <;> omega
  · rw [more_at hh, more_at hh, more_at hh]
    constructor
    · rintro ⟨x, hx⟩
      have := key x
      by_cases e : at0 f x < at0 g x
      · rw [if_pos e] at this
        exact Or.inr ⟨x, by omega⟩
      · rw [if_neg e] at this
        exact Or.inl ⟨x, by omega⟩
    · rintro (⟨x, hx⟩ | ⟨x, hx⟩)
      · have := key x
        exact ⟨x, by split at this <;> omega⟩
      · have := key x
        exact ⟨x, by split at this <;> omega⟩

set_option maxRecDepth 100000 in
set_option maxHeartbeats 8000000 in
theorem law6 (l1 l2 l3 l4 l5 l6 : Loc) (vk wk uk : List (List UInt8)) (vv wv uv : List Int) (n1 m1 n2 m2 n3 m3 : Nat) (E1 : Hid (vk.length = n1)) (E2 : Hid (vv.length = m1)) (E3 : Hid (wk.length = n2)) (E4 : Hid (wv.length = m2)) (E5 : Hid (uk.length = n3)) (E6 : Hid (uv.length = m3)) (w : World)
    (h1 : KeysLie w.heap.size w l1 vk) (h2 : NumsLie w.heap.size w l2 vv) (h3 : KeysLie w.heap.size w l3 wk) (h4 : NumsLie w.heap.size w l4 wv) (h5 : KeysLie w.heap.size w l5 uk) (h6 : NumsLie w.heap.size w l6 uv) :
    Calls Try.prog 6 #[.slice l1.ao n1 l1.cap, .slice l2.ao m1 l2.cap, .slice l3.ao n2 l3.cap, .slice l4.ao m2 l4.cap, .slice l5.ao n3 l5.cap, .slice l6.ao m3 l6.cap] w fun e w' => e = .returned (.bool true) ∧ Below w.heap.size w w' := by
  go_enter Try.func6, Try.ntmps6
  go_wp2_with fail
  refine (c18 _ _ _ _ _ _ _ _ _ _ _ _ _ _ _ _ _ _ w).mono ?_
  rintro e w1 ⟨⟨q, rfl⟩, rfl⟩
  cases q with
  | false =>
    go_wp2
    go_ret
    exact ⟨rfl, Below.refl _ _⟩
  | true =>
    by_cases b0 : 131072 < n1
    · go_wp2
      go_ret
      exact ⟨rfl, Below.refl _ _⟩
    by_cases b1 : 131072 < m1
    · go_wp2
      go_ret
      exact ⟨rfl, Below.refl _ _⟩
    by_cases b2 : 131072 < n2
    · go_wp2
      go_ret
      exact ⟨rfl, Below.refl _ _⟩
    by_cases b3 : 131072 < m2
    · go_wp2
      go_ret
      exact ⟨rfl, Below.refl _ _⟩
    by_cases b4 : 131072 < n3
    · go_wp2
      go_ret
      exact ⟨rfl, Below.refl _ _⟩
    by_cases b5 : 131072 < m3
    · go_wp2
      go_ret
      exact ⟨rfl, Below.refl _ _⟩
    by_cases bs : 1048576 < 12 * (n1 : Int) + 8 * (m1 : Int) + 12 * (n2 : Int) + 8 * (m2 : Int) + 12 * (n3 : Int) + 8 * (m3 : Int)
    · go_wp2
      go_ret
      exact ⟨rfl, Below.refl _ _⟩
    by_cases x1 : n1 ≠ m1
    · go_wp2
      go_ret
      exact ⟨rfl, Below.refl _ _⟩
    obtain rfl : n1 = m1 := Decidable.not_not.1 x1
    clear x1
    by_cases x2 : n2 ≠ m2
    · go_wp2
      go_ret
      exact ⟨rfl, Below.refl _ _⟩
    obtain rfl : n2 = m2 := Decidable.not_not.1 x2
    clear x2
    by_cases x3 : n3 ≠ m3
    · go_wp2
      go_ret
      exact ⟨rfl, Below.refl _ _⟩
    obtain rfl : n3 = m3 := Decidable.not_not.1 x3
    clear x3
    go_wp2_with fail
    refine (c10n l1 l2 vk vv E1.out E2.out w.heap.size w (Nat.le_refl _) (by omega) h1 h2).mono ?_
    rintro e w2 ⟨va, rfl, ha, hb2⟩
    go_wp2_with fail
    refine (c10n l3 l4 wk wv E3.out E4.out w.heap.size w2 hb2.size (by omega) (h3.below hb2 (Nat.le_refl _)) (h4.below hb2 (Nat.le_refl _))).mono ?_
    rintro e w2' ⟨vb, rfl, hb, hb2'⟩
    have hnx2 := hb2.trans (hb2'.mono hb2.size)
    go_wp2_with fail
    refine (c10n l5 l6 uk uv E5.out E6.out w.heap.size w2' hnx2.size (by omega) (h5.below hnx2 (Nat.le_refl _)) (h6.below hnx2 (Nat.le_refl _))).mono ?_
    rintro e w3 ⟨vc, rfl, hc, hb3⟩
    have nx := hnx2.trans (hb3.mono hnx2.size)
    have ha := (ha.step hb2').step hb3
    have hb := hb.step hb3
    generalize built vk vv vk.length = f at *
    generalize built wk wv wk.length = g at *
    generalize built uk uv uk.length = h at *
    clear hb2 hb2' hb3 hnx2 h1 h2 h3 h4 h5 h6 E1 E2 E3 E4 E5 E6
    go_wp2_with fail
    refine (c19 w3.heap.size va vb f g n1 n2 w3 (Nat.le_refl _) (by omega) ha hb).mono ?_
    rintro e w4 ⟨vm, rfl, m, hm, hM, hbx⟩
    have nx := nx.trans (hbx.mono nx.size)
    have ha := ha.step hbx
    have hb := hb.step hbx
    have hc := hc.step hbx
    clear hbx
    obtain ⟨imf, img, ifm, igm, imh⟩ := merge_more hM ha.nonneg hb.nonneg hc.nonneg hm.nonneg
    clear hM
    obtain ⟨b, igf⟩ := bool_of (More g f)
    obtain ⟨a, ifg⟩ := bool_of (More f g)
    obtain ⟨c, ifh⟩ := bool_of (More f h)
    obtain ⟨d, igh⟩ := bool_of (More g h)
    obtain ⟨r1, ihf⟩ := bool_of (More h f)
    obtain ⟨r2, ihg⟩ := bool_of (More h g)
    obtain ⟨r3, ihm⟩ := bool_of (More h m)
    have hmf : Says b (More m f) := igf.trans imf.symm
    have hmg : Says a (More m g) := ifg.trans img.symm
    have hfm : Says false (More f m) := show _ ↔ _ from by simp [ifm]
    have hgm : Says false (More g m) := show _ ↔ _ from by simp [igm]
    have hmh : Says (c || d) (More m h) := show _ ↔ _ from by rw [Bool.or_eq_true, ifh, igh, imh]
    have hgf : Says b (More g f) := igf
    have hfg : Says a (More f g) := ifg
    have hfh : Says c (More f h) := ifh
    have hgh : Says d (More g h) := igh
    have hhf : Says r1 (More h f) := ihf
    have hhg : Says r2 (More h g) := ihg
    have hhm : Says r3 (More h m) := ihm
    clear imf img ifm igm imh igf ifg ifh igh ihf ihg ihm
    go_wp2_with fail
    refine (c20z w4.heap.size vm va m f _ _ b false (half b) hmf hfm (half_eq b) w4 (Nat.le_refl _) hm ha).mono ?_
    rintro e w5 ⟨rfl, hbx⟩
    have nx := nx.trans (hbx.mono nx.size)
    have ha := ha.step hbx
    have hb := hb.step hbx
    have hc := hc.step hbx
    have hm := hm.step hbx
    clear hbx
    go_wp2_with fail
    refine (c20z w5.heap.size vm vb m g _ _ a false (half a) hmg hgm (half_eq a) w5 (Nat.le_refl _) hm hb).mono ?_
    rintro e w6 ⟨rfl, hbx⟩
    have nx := nx.trans (hbx.mono nx.size)
    have ha := ha.step hbx
    have hb := hb.step hbx
    have hc := hc.step hbx
    have hm := hm.step hbx
    clear hbx
    cases b with
    | true =>
      cases a with
      | true =>
        simp only [half_true]
        go_wp2_with fail
        refine (c20 w6.heap.size vb va g f _ _ true true hgf hfg w6 (Nat.le_refl _) hb ha).mono ?_
        rintro e w7 ⟨rfl, hbx⟩
        have nx := nx.trans (hbx.mono nx.size)
        have ha := ha.step hbx
        have hb := hb.step hbx
        have hc := hc.step hbx
        have hm := hm.step hbx
        clear hbx
        go_wp2_with fail
        refine (c21r true true false rfl w7).mono ?_
        rintro e w7' ⟨rfl, rfl⟩
        go_wp2_with fail
        refine (c20 w7.heap.size va vb f g _ _ true true hfg hgf w7 (Nat.le_refl _) ha hb).mono ?_
        rintro e w8 ⟨rfl, hbx⟩
        have nx := nx.trans (hbx.mono nx.size)
        have ha := ha.step hbx
        have hb := hb.step hbx
        have hc := hc.step hbx
        have hm := hm.step hbx
        clear hbx
        go_wp2_with fail
        refine (c21r true true false rfl w8).mono ?_
        rintro e w8' ⟨rfl, rfl⟩
        go_wp2_with fail
        refine (c20 w8.heap.size va vc f h _ _ c r1 hfh hhf w8 (Nat.le_refl _) ha hc).mono ?_
        rintro e w9 ⟨rfl, hbx⟩
        have nx := nx.trans (hbx.mono nx.size)
        have ha := ha.step hbx
        have hb := hb.step hbx
        have hc := hc.step hbx
        have hm := hm.step hbx
        clear hbx
        cases c with
        | true =>
          go_wp2_with fail
          refine (c21r true r1 false rfl w9).mono ?_
          rintro e w9' ⟨rfl, rfl⟩
          clear ha hb hc hm
          go_wp2
          go_ret
          exact ⟨rfl, nx⟩
        | false =>
          go_wp2_with fail
          refine (c21r false r1 true rfl w9).mono ?_
          rintro e w9' ⟨rfl, rfl⟩
          go_wp2_with fail
          refine (c20 w9.heap.size vb vc g h _ _ d r2 hgh hhg w9 (Nat.le_refl _) hb hc).mono ?_
          rintro e w10 ⟨rfl, hbx⟩
          have nx := nx.trans (hbx.mono nx.size)
          have ha := ha.step hbx
          have hc := hc.step hbx
          have hm := hm.step hbx
          clear hbx
          cases d with
          | true =>
            go_wp2_with fail
            refine (c21r true r2 false rfl w10).mono ?_
            rintro e w10' ⟨rfl, rfl⟩
            clear ha hc hm
            go_wp2
            go_ret
            exact ⟨rfl, nx⟩
          | false =>
            go_wp2_with fail
            refine (c21r false r2 true rfl w10).mono ?_
            rintro e w10' ⟨rfl, rfl⟩
            go_wp2_with fail
            refine (c20 w10.heap.size vm vc m h _ _ false r3 hmh hhm w10 (Nat.le_refl _) hm hc).mono ?_
            rintro e w11 ⟨rfl, hbx⟩
            have nx := nx.trans (hbx.mono nx.size)
            clear hbx
            go_wp2_with fail
            refine (c21r false r3 true rfl w11).mono ?_
            rintro e w11' ⟨rfl, rfl⟩
            go_wp2
            go_ret
            exact ⟨rfl, nx⟩
      | false =>
        simp only [half_false, half_true]
        go_wp2_with fail
        refine (c20 w6.heap.size vb va g f _ _ true false hgf hfg w6 (Nat.le_refl _) hb ha).mono ?_
        rintro e w7 ⟨rfl, hbx⟩
        have nx := nx.trans (hbx.mono nx.size)
        have ha := ha.step hbx
        have hb := hb.step hbx
        have hc := hc.step hbx
        have hm := hm.step hbx
        clear hbx
        go_wp2_with fail
        refine (c21r true false false rfl w7).mono ?_
        rintro e w7' ⟨rfl, rfl⟩
        go_wp2_with fail
        refine (c20 w7.heap.size va vb f g _ _ false true hfg hgf w7 (Nat.le_refl _) ha hb).mono ?_
        rintro e w8 ⟨rfl, hbx⟩
        have nx := nx.trans (hbx.mono nx.size)
        have ha := ha.step hbx
        have hb := hb.step hbx
        have hc := hc.step hbx
        have hm := hm.step hbx
        clear hbx
        go_wp2_with fail
        refine (c21r false true true rfl w8).mono ?_
        rintro e w8' ⟨rfl, rfl⟩
        go_wp2_with fail
        refine (c20 w8.heap.size va vc f h _ _ c r1 hfh hhf w8 (Nat.le_refl _) ha hc).mono ?_
        rintro e w9 ⟨rfl, hbx⟩
        have nx := nx.trans (hbx.mono nx.size)
        have ha := ha.step hbx
        have hb := hb.step hbx
        have hc := hc.step hbx
        have hm := hm.step hbx
        clear hbx
        cases c with
        | true =>
          go_wp2_with fail
          refine (c21r true r1 false rfl w9).mono ?_
          rintro e w9' ⟨rfl, rfl⟩
          clear ha hb hc hm
          go_wp2
          go_ret
          exact ⟨rfl, nx⟩
        | false =>
          go_wp2_with fail
          refine (c21r false r1 true rfl w9).mono ?_
          rintro e w9' ⟨rfl, rfl⟩
          go_wp2_with fail
          refine (c20 w9.heap.size vb vc g h _ _ d r2 hgh hhg w9 (Nat.le_refl _) hb hc).mono ?_
          rintro e w10 ⟨rfl, hbx⟩
          have nx := nx.trans (hbx.mono nx.size)
          have ha := ha.step hbx
          have hc := hc.step hbx
          have hm := hm.step hbx
          clear hbx
          cases d with
          | true =>
            go_wp2_with fail
            refine (c21r true r2 false rfl w10).mono ?_
            rintro e w10' ⟨rfl, rfl⟩
            clear ha hc hm
            go_wp2
            go_ret
            exact ⟨rfl, nx⟩
          | false =>
            go_wp2_with fail
            refine (c21r false r2 true rfl w10).mono ?_
            rintro e w10' ⟨rfl, rfl⟩
            go_wp2_with fail
            refine (c20 w10.heap.size vm vc m h _ _ false r3 hmh hhm w10 (Nat.le_refl _) hm hc).mono ?_
            rintro e w11 ⟨rfl, hbx⟩
            have nx := nx.trans (hbx.mono nx.size)
            clear hbx
            go_wp2_with fail
            refine (c21r false r3 true rfl w11).mono ?_
            rintro e w11' ⟨rfl, rfl⟩
            go_wp2
            go_ret
            exact ⟨rfl, nx⟩
    | false =>
      cases a with
      | true =>
        simp only [half_false, half_true]
        go_wp2_with fail
        refine (c20 w6.heap.size vb va g f _ _ false true hgf hfg w6 (Nat.le_refl _) hb ha).mono ?_
        rintro e w7 ⟨rfl, hbx⟩
        have nx := nx.trans (hbx.mono nx.size)
        have ha := ha.step hbx
        have hb := hb.step hbx
        have hc := hc.step hbx
        have hm := hm.step hbx
        clear hbx
        go_wp2_with fail
        refine (c21r false true true rfl w7).mono ?_
        rintro e w7' ⟨rfl, rfl⟩
        go_wp2_with fail
        refine (c20 w7.heap.size va vb f g _ _ true false hfg hgf w7 (Nat.le_refl _) ha hb).mono ?_
        rintro e w8 ⟨rfl, hbx⟩
        have nx := nx.trans (hbx.mono nx.size)
        have ha := ha.step hbx
        have hb := hb.step hbx
        have hc := hc.step hbx
        have hm := hm.step hbx
        clear hbx
        go_wp2_with fail
        refine (c21r true false false rfl w8).mono ?_
        rintro e w8' ⟨rfl, rfl⟩
        go_wp2_with fail
        refine (c20 w8.heap.size va vc f h _ _ c r1 hfh hhf w8 (Nat.le_refl _) ha hc).mono ?_
        rintro e w9 ⟨rfl, hbx⟩
        have nx := nx.trans (hbx.mono nx.size)
        have ha := ha.step hbx
        have hb := hb.step hbx
        have hc := hc.step hbx
        have hm := hm.step hbx
        clear hbx
        cases c with
        | true =>
          go_wp2_with fail
          refine (c21r true r1 false rfl w9).mono ?_
          rintro e w9' ⟨rfl, rfl⟩
          clear ha hb hc hm
          go_wp2
          go_ret
          exact ⟨rfl, nx⟩
        | false =>
          go_wp2_with fail
          refine (c21r false r1 true rfl w9).mono ?_
          rintro e w9' ⟨rfl, rfl⟩
          go_wp2_with fail
          refine (c20 w9.heap.size vb vc g h _ _ d r2 hgh hhg w9 (Nat.le_refl _) hb hc).mono ?_
          rintro e w10 ⟨rfl, hbx⟩
          have nx := nx.trans (hbx.mono nx.size)
          have ha := ha.step hbx
          have hc := hc.step hbx
          have hm := hm.step hbx
          clear hbx
          cases d with
          | true =>
            go_wp2_with fail
            refine (c21r true r2 false rfl w10).mono ?_
            rintro e w10' ⟨rfl, rfl⟩
            clear ha hc hm
            go_wp2
            go_ret
            exact ⟨rfl, nx⟩
          | false =>
            go_wp2_with fail
            refine (c21r false r2 true rfl w10).mono ?_
            rintro e w10' ⟨rfl, rfl⟩
            go_wp2_with fail
            refine (c20 w10.heap.size vm vc m h _ _ false r3 hmh hhm w10 (Nat.le_refl _) hm hc).mono ?_
            rintro e w11 ⟨rfl, hbx⟩
            have nx := nx.trans (hbx.mono nx.size)
            clear hbx
            go_wp2_with fail
            refine (c21r false r3 true rfl w11).mono ?_
            rintro e w11' ⟨rfl, rfl⟩
            go_wp2
            go_ret
            exact ⟨rfl, nx⟩
      | false =>
        simp only [half_false]
        go_wp2_with fail
        refine (c20 w6.heap.size vb va g f _ _ false false hgf hfg w6 (Nat.le_refl _) hb ha).mono ?_
        rintro e w7 ⟨rfl, hbx⟩
        have nx := nx.trans (hbx.mono nx.size)
        have ha := ha.step hbx
        have hb := hb.step hbx
        have hc := hc.step hbx
        have hm := hm.step hbx
        clear hbx
        go_wp2_with fail
        refine (c21r false false true rfl w7).mono ?_
        rintro e w7' ⟨rfl, rfl⟩
        go_wp2_with fail
        refine (c20 w7.heap.size va vb f g _ _ false false hfg hgf w7 (Nat.le_refl _) ha hb).mono ?_
        rintro e w8 ⟨rfl, hbx⟩
        have nx := nx.trans (hbx.mono nx.size)
        have ha := ha.step hbx
        have hb := hb.step hbx
        have hc := hc.step hbx
        have hm := hm.step hbx
        clear hbx
        go_wp2_with fail
        refine (c21r false false true rfl w8).mono ?_
        rintro e w8' ⟨rfl, rfl⟩
        go_wp2_with fail
        refine (c20 w8.heap.size va vc f h _ _ c r1 hfh hhf w8 (Nat.le_refl _) ha hc).mono ?_
        rintro e w9 ⟨rfl, hbx⟩
        have nx := nx.trans (hbx.mono nx.size)
        have ha := ha.step hbx
        have hb := hb.step hbx
        have hc := hc.step hbx
        have hm := hm.step hbx
        clear hbx
        cases c with
        | true =>
          go_wp2_with fail
          refine (c21r true r1 false rfl w9).mono ?_
          rintro e w9' ⟨rfl, rfl⟩
          clear ha hb hc hm
          go_wp2
          go_ret
          exact ⟨rfl, nx⟩
        | false =>
          go_wp2_with fail
          refine (c21r false r1 true rfl w9).mono ?_
          rintro e w9' ⟨rfl, rfl⟩
          go_wp2_with fail
          refine (c20 w9.heap.size vb vc g h _ _ d r2 hgh hhg w9 (Nat.le_refl _) hb hc).mono ?_
          rintro e w10 ⟨rfl, hbx⟩
          have nx := nx.trans (hbx.mono nx.size)
          have ha := ha.step hbx
          have hc := hc.step hbx
          have hm := hm.step hbx
          clear hbx
          cases d with
          | true =>
            go_wp2_with fail
            refine (c21r true r2 false rfl w10).mono ?_
            rintro e w10' ⟨rfl, rfl⟩
            clear ha hc hm
            go_wp2
            go_ret
            exact ⟨rfl, nx⟩
          | false =>
            go_wp2_with fail
            refine (c21r false r2 true rfl w10).mono ?_
            rintro e w10' ⟨rfl, rfl⟩
            go_wp2_with fail
            refine (c20 w10.heap.size vm vc m h _ _ false r3 hmh hhm w10 (Nat.le_refl _) hm hc).mono ?_
            rintro e w11 ⟨rfl, hbx⟩
            have nx := nx.trans (hbx.mono nx.size)
            clear hbx
            go_wp2_with fail
            refine (c21r false r3 true rfl w11).mono ?_
            rintro e w11' ⟨rfl, rfl⟩
            go_wp2
            go_ret
            exact ⟨rfl, nx⟩

end Go.Proofs.Qxb6602613a.Ver
