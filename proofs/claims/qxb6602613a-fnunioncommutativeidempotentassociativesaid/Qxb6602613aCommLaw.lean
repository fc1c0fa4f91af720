/-
  FnUnionCommutativeIdempotentAssociative, walked.
-/
import Derived.Test.Qxb6602613aAgree
namespace Go.Proofs.Qxb6602613a.Ver
open Go.RowKit
open Go.Proofs.Qxb6602613a.Mid

theorem Held.step {w w' : World} {v : Value} {f : Fn} {N : Nat} (h : Held w.heap.size w v f N) (hb : Below w.heap.size w w') : Held w'.heap.size w' v f N := (h.below hb (Nat.le_refl _)).mono hb.size (Nat.le_refl _)
theorem KeysLie.step {w w' : World} {l : Loc} {ks : List (List UInt8)} (h : KeysLie w.heap.size w l ks) (hb : Below w.heap.size w w') : KeysLie w'.heap.size w' l ks := (h.below hb (Nat.le_refl _)).mono hb.size
theorem KeysLie.stepTo {w w' : World} {l : Loc} {ks : List (List UInt8)} (h : KeysLie w.heap.size w l ks) (hb : Below w.heap.size w w') : KeysLie w'.heap.size w' l ks := h.step hb

/-! ### the plain laws -/
theorem join_comm (f g : Fn) : join f g = join g f := by
  funext x
  unfold join
  cases f x with
  | none => cases g x <;> rfl
  | some a =>
    cases g x with
    | none => rfl
    | some b =>
      simp only
      congr 1
      split <;> split <;> omega
theorem join_self (f : Fn) : join f f = f := by
  funext x
  unfold join
  cases f x with
  | none => rfl
  | some a => simp
theorem join_assoc (f g h : Fn) : join (join f g) h = join f (join g h) := by
  funext x
  unfold join
  cases f x with
  | none => rfl
  | some a =>
    cases g x with
    | none => cases h x <;> rfl
    | some b =>
      cases h x with
      | none => rfl
      | some c =>
        simp only
        congr 1
        repeat' split
        all_goals omega

set_option maxRecDepth 100000 in
set_option maxHeartbeats 8000000 in
theorem law5 (l1 l2 l3 l4 l5 l6 : Loc) (ak bk ck : List (List UInt8)) (av bv cv : List Int) (n1 m1 n2 m2 n3 m3 : Nat) (E1 : Hid (ak.length = n1)) (E2 : Hid (av.length = m1)) (E3 : Hid (bk.length = n2)) (E4 : Hid (bv.length = m2)) (E5 : Hid (ck.length = n3)) (E6 : Hid (cv.length = m3)) (w : World)
    (h1 : KeysLie w.heap.size w l1 ak) (h2 : NumsLie w.heap.size w l2 av) (h3 : KeysLie w.heap.size w l3 bk) (h4 : NumsLie w.heap.size w l4 bv) (h5 : KeysLie w.heap.size w l5 ck) (h6 : NumsLie w.heap.size w l6 cv) :
    Calls Try.prog 5 #[.slice l1.ao n1 l1.cap, .slice l2.ao m1 l2.cap, .slice l3.ao n2 l3.cap, .slice l4.ao m2 l4.cap, .slice l5.ao n3 l5.cap, .slice l6.ao m3 l6.cap] w fun e w' => e = .returned (.bool true) ∧ Below w.heap.size w w' := by
  go_enter Try.func5, Try.ntmps5
  go_wp2_with fail
  refine (c16 _ _ _ _ _ _ _ _ _ _ _ _ _ _ _ _ _ _ w).mono ?_
  rintro e w1 ⟨⟨q, rfl⟩, rfl⟩
  cases q with
  | false =>
    go_wp2
    go_ret
    exact ⟨rfl, Below.refl _ _⟩
  | true =>
    by_cases b0 : 131072 < n1
    · go_wp2
      go_ret
      exact ⟨rfl, Below.refl _ _⟩
    by_cases b1 : 131072 < m1
    · go_wp2
      go_ret
      exact ⟨rfl, Below.refl _ _⟩
    by_cases b2 : 131072 < n2
    · go_wp2
      go_ret
      exact ⟨rfl, Below.refl _ _⟩
    by_cases b3 : 131072 < m2
    · go_wp2
      go_ret
      exact ⟨rfl, Below.refl _ _⟩
    by_cases b4 : 131072 < n3
    · go_wp2
      go_ret
      exact ⟨rfl, Below.refl _ _⟩
    by_cases b5 : 131072 < m3
    · go_wp2
      go_ret
      exact ⟨rfl, Below.refl _ _⟩
    by_cases bs : 1048576 < 12 * (n1 : Int) + 8 * (m1 : Int) + 12 * (n2 : Int) + 8 * (m2 : Int) + 12 * (n3 : Int) + 8 * (m3 : Int)
    · go_wp2
      go_ret
      exact ⟨rfl, Below.refl _ _⟩
    by_cases x1 : n1 ≠ m1
    · go_wp2
      go_ret
      exact ⟨rfl, Below.refl _ _⟩
    obtain rfl : n1 = m1 := Decidable.not_not.1 x1
    clear x1
    by_cases x2 : n2 ≠ m2
    · go_wp2
      go_ret
      exact ⟨rfl, Below.refl _ _⟩
    obtain rfl : n2 = m2 := Decidable.not_not.1 x2
    clear x2
    by_cases x3 : n3 ≠ m3
    · go_wp2
      go_ret
      exact ⟨rfl, Below.refl _ _⟩
    obtain rfl : n3 = m3 := Decidable.not_not.1 x3
    clear x3
    have KA := h1
    have KB := h3
    have KC := h5
    go_wp2_with fail
    refine (c10n l1 l2 ak av E1.out E2.out w.heap.size w (Nat.le_refl _) (by omega) h1 h2).mono ?_
    rintro e w2 ⟨va, rfl, ha, hb2⟩
    go_wp2_with fail
    refine (c10n l3 l4 bk bv E3.out E4.out w.heap.size w2 hb2.size (by omega) (h3.below hb2 (Nat.le_refl _)) (h4.below hb2 (Nat.le_refl _))).mono ?_
    rintro e w2' ⟨vb, rfl, hb, hb2'⟩
    have hnx2 := hb2.trans (hb2'.mono hb2.size)
    go_wp2_with fail
    refine (c10n l5 l6 ck cv E5.out E6.out w.heap.size w2' hnx2.size (by omega) (h5.below hnx2 (Nat.le_refl _)) (h6.below hnx2 (Nat.le_refl _))).mono ?_
    rintro e w3 ⟨vc, rfl, hc, hb3⟩
    have nx := hnx2.trans (hb3.mono hnx2.size)
    have ha := (ha.step hb2').step hb3
    have hb := hb.step hb3
    have sf := built_all (ks := ak) (vs := av) (E1.out.trans E2.out.symm)
    have sg := built_all (ks := bk) (vs := bv) (E3.out.trans E4.out.symm)
    have sh := built_all (ks := ck) (vs := cv) (E5.out.trans E6.out.symm)
    generalize built ak av ak.length = f at *
    generalize built bk bv bk.length = g at *
    generalize built ck cv ck.length = h at *
    have KA := KA.stepTo nx
    have KB := KB.stepTo nx
    have KC := KC.stepTo nx
    clear hb2 hb2' hb3 hnx2 h1 h2 h3 h4 h5 h6
    go_wp2_with fail
    refine (c11 w3.heap.size va vb f g n1 n2 w3 (Nat.le_refl _) (by omega) ha hb).mono ?_
    rintro e w4 ⟨vab, rfl, hvab, _, hbx⟩
    have nx := nx.trans (hbx.mono nx.size)
    have ha := ha.step hbx
    have hb := hb.step hbx
    have hc := hc.step hbx
    have KA := KA.step hbx
    have KB := KB.step hbx
    have KC := KC.step hbx
    clear hbx
    go_wp2_with fail
    refine (c11 w4.heap.size vb va g f n2 n1 w4 (Nat.le_refl _) (by omega) hb ha).mono ?_
    rintro e w5 ⟨vba, rfl, hvba, _, hbx⟩
    have nx := nx.trans (hbx.mono nx.size)
    have ha := ha.step hbx
    have hb := hb.step hbx
    have hc := hc.step hbx
    have hvab := hvab.step hbx
    have KA := KA.step hbx
    have KB := KB.step hbx
    have KC := KC.step hbx
    clear hbx
    rw [join_comm g f] at hvba
    go_wp2_with fail
    refine (c17 w5.heap.size vab vba (join f g) _ _ l1 l3 l5 ak bk ck n1 n2 n3 E1 E3 E5 w5 (Nat.le_refl _) (by omega) (by omega) (by omega) hvab hvba KA KB KC (fun x hx => by rw [join_some, sf, sg] at hx; rcases hx with h | h; exact Or.inl h; exact Or.inr (Or.inl h))).mono ?_
    rintro e w6 ⟨rfl, hbx⟩
    have nx := nx.trans (hbx.mono nx.size)
    have ha := ha.step hbx
    have hb := hb.step hbx
    have hc := hc.step hbx
    have hvab := hvab.step hbx
    have KA := KA.step hbx
    have KB := KB.step hbx
    have KC := KC.step hbx
    clear hbx
    go_wp2_with fail
    refine (c11 w6.heap.size va va f f n1 n1 w6 (Nat.le_refl _) (by omega) ha ha).mono ?_
    rintro e w7 ⟨vaa, rfl, hvaa, _, hbx⟩
    have nx := nx.trans (hbx.mono nx.size)
    have ha := ha.step hbx
    have hb := hb.step hbx
    have hc := hc.step hbx
    have hvab := hvab.step hbx
    have KA := KA.step hbx
    have KB := KB.step hbx
    have KC := KC.step hbx
    clear hbx
    rw [join_self f] at hvaa
    go_wp2_with fail
    refine (c17 w7.heap.size vaa va f _ _ l1 l3 l5 ak bk ck n1 n2 n3 E1 E3 E5 w7 (Nat.le_refl _) (by omega) (by omega) (by omega) hvaa ha KA KB KC (fun x hx => Or.inl ((sf x).1 hx))).mono ?_
    rintro e w8 ⟨rfl, hbx⟩
    have nx := nx.trans (hbx.mono nx.size)
    have ha := ha.step hbx
    have hb := hb.step hbx
    have hc := hc.step hbx
    have hvab := hvab.step hbx
    have KA := KA.step hbx
    have KB := KB.step hbx
    have KC := KC.step hbx
    clear hbx
    go_wp2_with fail
    refine (c11 w8.heap.size vab vc (join f g) h (n1 + n2) n3 w8 (Nat.le_refl _) (by omega) hvab hc).mono ?_
    rintro e w9 ⟨vl, rfl, hvl, _, hbx⟩
    have nx := nx.trans (hbx.mono nx.size)
    have ha := ha.step hbx
    have hb := hb.step hbx
    have hc := hc.step hbx
    have KA := KA.step hbx
    have KB := KB.step hbx
    have KC := KC.step hbx
    clear hbx
    go_wp2_with fail
    refine (c11 w9.heap.size vb vc g h n2 n3 w9 (Nat.le_refl _) (by omega) hb hc).mono ?_
    rintro e w10 ⟨vbc, rfl, hvbc, _, hbx⟩
    have nx := nx.trans (hbx.mono nx.size)
    have ha := ha.step hbx
    have hvl := hvl.step hbx
    have KA := KA.step hbx
    have KB := KB.step hbx
    have KC := KC.step hbx
    clear hbx
    go_wp2_with fail
    refine (c11 w10.heap.size va vbc f (join g h) n1 (n2 + n3) w10 (Nat.le_refl _) (by omega) ha hvbc).mono ?_
    rintro e w11 ⟨vr, rfl, hvr, _, hbx⟩
    have nx := nx.trans (hbx.mono nx.size)
    have hvl := hvl.step hbx
    have KA := KA.step hbx
    have KB := KB.step hbx
    have KC := KC.step hbx
    clear hbx
    rw [← join_assoc f g h] at hvr
    go_wp2_with fail
    refine (c17 w11.heap.size vl vr (join (join f g) h) _ _ l1 l3 l5 ak bk ck n1 n2 n3 E1 E3 E5 w11 (Nat.le_refl _) (by omega) (by omega) (by omega) hvl hvr KA KB KC (fun x hx => by rw [join_some, join_some, sf, sg, sh] at hx; rcases hx with (h | h) | h; exact Or.inl h; exact Or.inr (Or.inl h); exact Or.inr (Or.inr h))).mono ?_
    rintro e w12 ⟨rfl, hbx⟩
    have nx := nx.trans (hbx.mono nx.size)
    clear hvl hvr KA KB KC hbx
    go_wp2
    go_ret
    exact ⟨rfl, nx⟩

end Go.Proofs.Qxb6602613a.Ver
