import Derived.Test.Qxb6604552aBase
namespace Go.Proofs.Qxb6604552a.Pend
open Go.RowKit Mid
open Go.Proofs.Qxb6604552a.Node (wpL_load30 wpL_eql30 wpL_neq30 size23 size30 size5)
attribute [local simp] length_u8s

set_option maxRecDepth 100000 in
set_option maxHeartbeats 4000000 in
theorem own_walk (p : Pd) (hp : p.Ok) (l1 l2 : Loc) (cts : List Ct) (vals : List (List UInt8)) (w : World) (h1 : CtsOpen w l1 cts) (h2 : ValsLie w l2 vals) :
    Calls Try.prog 6 #[.agg (u8s p.prop).toArray, .int .u64 p.gen, .int .u64 p.ep, .agg (u8s p.chk).toArray, .agg (u8s p.sig).toArray, l1.val cts.length, l2.val vals.length] w fun e w' => e = .returned (.bool true) ∧ Below w.heap.size w w' := by
  have H0 := base_start w p h1 h2
  have E1 : l1.val cts.length = .slice l1.ao cts.length l1.cap := rfl
  have E2 : l2.val vals.length = .slice l2.ao vals.length l2.cap := rfl
  go_enter Try.func6, Try.ntmps6
  go_upto_region 1 with fail
  unfold three at H0
  generalize hw0 : ((w.alloc (.cells (u8s p.prop).toArray 23)).alloc (.cells (u8s p.chk).toArray 23)).alloc (.cells (u8s p.sig).toArray 23) = w0 at *
  clear hw0
  go_wp2_with (first
    | (with_reducible show wpList _ _ _ (⟨_, .load 23 (.tmp 7), _, _, _, _⟩ :: _) _ _; refine wpL_load23 rfl _ rfl w.heap.size 0 rfl p.prop hp.prop H0.prop ?_)
    | (with_reducible show wpList _ _ _ (⟨_, .load 23 (.tmp 10), _, _, _, _⟩ :: _) _ _; refine wpL_load23 rfl _ rfl (w.heap.size + 1) 0 rfl p.chk hp.chk H0.chk ?_)
    | (with_reducible show wpList _ _ _ (⟨_, .load 23 (.tmp 11), _, _, _, _⟩ :: _) _ _; refine wpL_load23 rfl _ rfl (w.heap.size + 1 + 1) 0 rfl p.sig hp.sig H0.sig ?_))
  refine (c22 p l1 l2 cts vals.length w0 H0.cts).mono ?_
  rintro e w1 ⟨⟨q, rfl, hq⟩, b1⟩
  have H1 := H0.next b1 (Nat.le_refl _)
  clear H0 b1
  cases q
  · go_wp2
    go_ret
    exact ⟨rfl, H1.below⟩
  have hsm := hq rfl
  have HSM : Hid (∀ i (h : i < cts.length), cts[i].buf.bs.length ≤ 1048576) := hsm
  clear hsm hq
  by_cases g1 : 65536 < cts.length
  · have g1' : (65536 : Int) < (cts.length : Int) := by omega
    go_wp2
    go_ret
    exact ⟨rfl, H1.below⟩
  have g1' : (cts.length : Int) ≤ 65536 := by omega
  by_cases g2 : 65536 < vals.length
  · have g2' : (65536 : Int) < (vals.length : Int) := by omega
    go_wp2
    go_ret
    exact ⟨rfl, H1.below⟩
  have g2' : (vals.length : Int) ≤ 65536 := by omega
  have d1 : decide (65536 < (cts.length : Int)) = false := by simp; omega
  have d2 : decide (65536 < (vals.length : Int)) = false := by simp; omega
  go_wp2_with fail
  refine (c15 l1 l2 cts vals.length w1 (by omega) (by omega) H1.cts).mono ?_
  rintro e w2 ⟨⟨q, rfl⟩, rfl⟩
  cases q
  case true =>
    go_wp2
    go_ret
    exact ⟨rfl, H1.below⟩
  go_wp2_with fail
  refine (c16 l2 vals w1 (by omega) H1.vals).mono ?_
  rintro e w2 ⟨⟨q, rfl⟩, b2⟩
  have H2 := H1.next b2 (Nat.le_refl _)
  clear H1 b2
  cases q
  · go_wp2
    go_ret
    exact ⟨rfl, H2.below⟩
  go_wp2_with (first
    | (with_reducible show wpList _ _ _ (⟨_, .load 23 (.tmp 7), _, _, _, _⟩ :: _) _ _; refine wpL_load23 rfl _ rfl w.heap.size 0 rfl p.prop hp.prop H2.prop ?_)
    | (with_reducible show wpList _ _ _ (⟨_, .load 23 (.tmp 10), _, _, _, _⟩ :: _) _ _; refine wpL_load23 rfl _ rfl (w.heap.size + 1) 0 rfl p.chk hp.chk H2.chk ?_)
    | (with_reducible show wpList _ _ _ (⟨_, .load 23 (.tmp 11), _, _, _, _⟩ :: _) _ _; refine wpL_load23 rfl _ rfl (w.heap.size + 1 + 1) 0 rfl p.sig hp.sig H2.sig ?_))
  refine (c17 p hp l1 l2 cts vals w2 (by omega) (by omega) (H2.cts.lie HSM.out) H2.vals).mono ?_
  rintro e w3 ⟨bp, m1, m2, new, rfl, hsame, hm1, hm2, HP3, b3⟩
  have H3 := H2.next b3 (Nat.le_refl _)
  clear H2 b3
  have HSA : Hid (SameAll new cts) := hsame
  have HM1 : Hid (m1.ao.isNone = l1.ao.isNone) := hm1
  have HM2 : Hid (m2.ao.isNone = l2.ao.isNone) := hm2
  have HLN : Hid (new.length = cts.length) := hsame.len
  clear hsame hm1 hm2
  go_wp2_with fail
  refine (c18 _ w3).mono ?_
  rintro e w4 ⟨rfl, hcl, hsz, b4⟩
  have H4 := H3.next b4 (Nat.le_refl _)
  have HP4 := HP3.below b4 (Nat.le_refl _)
  generalize hbl : w3.heap.size = bl at *
  clear H3 b4 HP3
  have hbl4 : bl < w4.heap.size := by omega
  clear hbl hsz
  go_wp2_with fail
  refine (c19 bl bp p hp m1 m2 new vals w4 hbl4 hcl HP4 (by rw [HLN.out]; omega) (by omega)).mono ?_
  rintro e w5 ⟨k1, k2, rfl, HO⟩
  have H5 := H4.next HO.below (Nat.le_refl _)
  obtain ⟨r6, b6, s6, t6, _⟩ := laid w5 z59 (pcells p (k1.val new.length) (k2.val vals.length)) 59 (by rw [length_z59, length_pcells hp])
  have hlen6 := length_pcells hp (k1.val new.length) (k2.val vals.length)
  have hz59 := zero59
  go_upto_region 11 with (with_reducible show wpList _ _ _ (⟨_, .store 59 _ _, _, _, _, _⟩ :: _) _ _; refine wpL_store rfl 59 _ _ rfl w5.heap.size 0 (pcells p (k1.val new.length) (k2.val vals.length)) rfl rfl t6 (by rw [size59, hlen6]) (one_pcells rfl rfl) ?_)
  have H6 := H5.next b6 (Nat.le_refl _)
  have C6 := HO.hcts.below b6 (Nat.le_refl _)
  have V6 := HO.hvals.below b6 (Nat.le_refl _)
  have U6 := HO.room1.below b6 (fun hn => (HO.hcts.addr hn).2)
  have W6 := HO.room2.below b6 (fun hn => (HO.hvals.addr hn).2)
  have D6 : Below w4.heap.size w4 _ := HO.below.trans (b6.mono HO.below.size)
  have hz1 : k1.ao.isNone = l1.ao.isNone := HO.nil1.trans HM1.out
  have hz2 : k2.ao.isNone = l2.ao.isNone := HO.nil2.trans HM2.out
  have N1 : new.length ≠ 0 → w4.heap.size ≤ k1.b ∧ k1.off = 0 ∧ k1.b < w5.heap.size ∧ k1.ao = some ⟨k1.b, k1.off, none⟩ := fun hn => ⟨(HO.new1 hn).1, (HO.new1 hn).2, (HO.hcts.addr hn).2, (HO.hcts.addr hn).1⟩
  have N2 : vals.length ≠ 0 → w4.heap.size ≤ k2.b ∧ k2.off = 0 ∧ k2.b < w5.heap.size ∧ k2.ao = some ⟨k2.b, k2.off, none⟩ := fun hn => ⟨(HO.new2 hn).1, (HO.new2 hn).2, (HO.hvals.addr hn).2, (HO.hvals.addr hn).1⟩
  have HN1 : Hid (new.length ≠ 0 → w4.heap.size ≤ k1.b ∧ k1.off = 0 ∧ k1.b < w5.heap.size ∧ k1.ao = some ⟨k1.b, k1.off, none⟩) := N1
  have HN2 : Hid (vals.length ≠ 0 → w4.heap.size ≤ k2.b ∧ k2.off = 0 ∧ k2.b < w5.heap.size ∧ k2.ao = some ⟨k2.b, k2.off, none⟩) := N2
  clear HO H5 b6 t6 N1 N2
  generalize hw6 : (w5.alloc (.cells z59.toArray 59)).setCells w5.heap.size 0 (pcells p (k1.val new.length) (k2.val vals.length)) = w6 at *
  clear hw6
  generalize hb16 : w5.heap.size = b16 at *
  clear hb16
  have hcall := c21' p hp l1 l2 k1 k2 cts new vals w6 (by omega) (by omega) HSA.out hz1 hz2 (H6.cts.lie HSM.out) H6.vals C6 V6
  have HZ1 : Hid (k1.ao.isNone = l1.ao.isNone) := hz1
  have HZ2 : Hid (k2.ao.isNone = l2.ao.isNone) := hz2
  clear hz1 hz2
  go_wp2_with (first
    | (with_reducible show wpList _ _ _ (⟨_, .load 59 (.tmp 16), _, _, _, _⟩ :: _) _ _; refine wpL_load rfl 59 _ rfl b16 0 rfl (pcells p (k1.val new.length) (k2.val vals.length)) _ r6 Try.underlying59 rfl (by rw [size59, hlen6]) ?_)
    | (with_reducible show wpList _ _ _ (⟨_, .load 23 (.tmp 7), _, _, _, _⟩ :: _) _ _; refine wpL_load23 rfl _ rfl w.heap.size 0 rfl p.prop hp.prop H6.prop ?_)
    | (with_reducible show wpList _ _ _ (⟨_, .load 23 (.tmp 10), _, _, _, _⟩ :: _) _ _; refine wpL_load23 rfl _ rfl (w.heap.size + 1) 0 rfl p.chk hp.chk H6.chk ?_)
    | (with_reducible show wpList _ _ _ (⟨_, .load 23 (.tmp 11), _, _, _, _⟩ :: _) _ _; refine wpL_load23 rfl _ rfl (w.heap.size + 1 + 1) 0 rfl p.sig hp.sig H6.sig ?_))
  refine hcall.mono ?_
  rintro e w7 ⟨rfl, b7⟩
  have P7 := pparts_of hp (rangeAt_below b7 (by omega) r6)
  have WR : Wr w4 b16 k1 k2 new.length vals.length w7 := ⟨D6.trans (b7.mono D6.size), P7.cts, P7.conf, U6.below b7 (fun hn => by have := (HN1.out hn).2.2.1; omega), W6.below b7 (fun hn => by have := (HN2.out hn).2.2.1; omega)⟩
  clear P7 b7 hcall C6 V6 U6 W6 D6 r6 hlen6 H6 s6
  obtain ⟨ao5, cp5, b5, off5⟩ := k1
  obtain ⟨ao6, cp6, b6, off6⟩ := k2
  have hnn : new.length ≤ 65536 := by rw [HLN.out]; omega
  go_wp2
  go_loopw [18] (fun i wr => ∃ k : Nat, k ≤ new.length ∧ i = .int .i64 k ∧ Wr w4 b16 ⟨ao5, cp5, b5, off5⟩ ⟨ao6, cp6, b6, off6⟩ new.length vals.length wr) (fun i _ => new.length - (intOf i).toNat)
  case atStart => exact ⟨0, Nat.zero_le _, rfl, WR⟩
  case round =>
    clear WR
    obtain ⟨k, hk, rfl, WR⟩ := hrel
    have c98 := WR.c98
    simp only at c98
    by_cases hlt : k < new.length
    · obtain ⟨q1, q2, q3, q4⟩ := HN1.out (by omega)
      subst q4
      subst q2
      have hT := WR.room1 k hlt
      simp only at hT
      have WP := WR.put b5 (k * 33) z68 q1 (by omega)
      go_wp2_with (first
        | (with_reducible show wpList _ _ _ (⟨_, .build 68 _, _, _, _, _⟩ :: _) _ _; refine wpL_build rfl 68 [] rfl [] rfl _ (build68_zero _) ?_)
        | (with_reducible show wpList _ _ _ (⟨_, .store 68 _ _, _, _, _, _⟩ :: _) _ _; refine wpL_store rfl 68 _ _ rfl b5 (k * 33) z68 rfl rfl (by rw [length_z68]; exact hT) (by rw [size68, length_z68]) one_z68 ?_))
      go_roundw
      case rel => exact ⟨k + 1, by omega, by go_num, WP⟩
      case measure => simp [intOf]; omega
    · go_wp2
      clear c98
      go_loopw [19] (fun i wr => ∃ k : Nat, k ≤ vals.length ∧ i = .int .i64 k ∧ Wr w4 b16 ⟨ao5, cp5, b5, off5⟩ ⟨ao6, cp6, b6, off6⟩ new.length vals.length wr) (fun i _ => vals.length - (intOf i).toNat)
      case atStart => exact ⟨0, Nat.zero_le _, rfl, WR⟩
      case round =>
        clear WR
        obtain ⟨j, hj, rfl, WR⟩ := hrel
        have c99 := WR.c99
        simp only at c99
        by_cases hjt : j < vals.length
        · obtain ⟨q1, q2, q3, q4⟩ := HN2.out (by omega)
          subst q4
          subst q2
          have hT := WR.room2 j hjt
          simp only at hT
          have WP := WR.put b6 (j * 32) (u8s zid) q1 (by omega)
          go_wp2_with (first
            | (with_reducible show wpList _ _ _ (⟨_, .build 30 _, _, _, _, _⟩ :: _) _ _; refine wpL_build rfl 30 [] rfl [] rfl _ (build30_zero _) ?_)
            | (with_reducible show wpList _ _ _ (⟨_, .store 30 _ _, _, _, _, _⟩ :: _) _ _; refine wpL_store rfl 30 _ _ rfl b6 (j * 32) (u8s zid) rfl rfl (by rw [length_u8s, length_zid]; exact hT) (by rw [size30, length_u8s, length_zid]) (one_u8s _) ?_))
          go_roundw
          case rel => exact ⟨j + 1, by omega, by go_num, WP⟩
          case measure => simp [intOf]; omega
        · have H8 := H4.next WR.below (Nat.le_refl _)
          have HP8 := HP4.below WR.below (Nat.le_refl _)
          have hcl8 : wr.cell? ⟨bl, 73, none⟩ = some (.pointer (some ⟨bp, 0, none⟩)) := by rw [WR.below.cell (by exact hbl4)]; exact hcl
          have hbl8 : bl < wr.heap.size := Nat.lt_of_lt_of_le hbl4 WR.below.size
          clear WR H4 HP4 hcl hbl4
          go_wp2_with fail
          clear c99
          refine (c19 bl bp p hp m1 m2 new vals wr hbl8 hcl8 HP8 hnn (by omega)).mono ?_
          rintro e w9 ⟨k3, k4, rfl, HO⟩
          have H9 := H8.next HO.below (Nat.le_refl _)
          obtain ⟨r10, b10, s10, t10, _⟩ := laid w9 z59 (pcells p (k3.val new.length) (k4.val vals.length)) 59 (by rw [length_z59, length_pcells hp])
          have hlen10 := length_pcells hp (k3.val new.length) (k4.val vals.length)
          go_upto_region 22 with (with_reducible show wpList _ _ _ (⟨_, .store 59 _ _, _, _, _, _⟩ :: _) _ _; refine wpL_store rfl 59 _ _ rfl w9.heap.size 0 (pcells p (k3.val new.length) (k4.val vals.length)) rfl rfl t10 (by rw [size59, hlen10]) (one_pcells rfl rfl) ?_)
          have H10 := H9.next b10 (Nat.le_refl _)
          have C10 := HO.hcts.below b10 (Nat.le_refl _)
          have V10 := HO.hvals.below b10 (Nat.le_refl _)
          have hz1 : k3.ao.isNone = l1.ao.isNone := HO.nil1.trans HM1.out
          have hz2 : k4.ao.isNone = l2.ao.isNone := HO.nil2.trans HM2.out
          clear HO H9 b10 t10 H8 HP8
          generalize hw10 : (w9.alloc (.cells z59.toArray 59)).setCells w9.heap.size 0 (pcells p (k3.val new.length) (k4.val vals.length)) = w10 at *
          clear hw10
          generalize hb20 : w9.heap.size = b20 at *
          clear hb20
          have hcall := c21' p hp l1 l2 k3 k4 cts new vals w10 (by omega) (by omega) HSA.out hz1 hz2 (H10.cts.lie HSM.out) H10.vals C10 V10
          clear hz1 hz2
          go_wp2_with (first
            | (with_reducible show wpList _ _ _ (⟨_, .load 59 (.tmp 20), _, _, _, _⟩ :: _) _ _; refine wpL_load rfl 59 _ rfl b20 0 rfl (pcells p (k3.val new.length) (k4.val vals.length)) _ r10 Try.underlying59 rfl (by rw [size59, hlen10]) ?_)
            | (with_reducible show wpList _ _ _ (⟨_, .load 23 (.tmp 7), _, _, _, _⟩ :: _) _ _; refine wpL_load23 rfl _ rfl w.heap.size 0 rfl p.prop hp.prop H10.prop ?_)
            | (with_reducible show wpList _ _ _ (⟨_, .load 23 (.tmp 10), _, _, _, _⟩ :: _) _ _; refine wpL_load23 rfl _ rfl (w.heap.size + 1) 0 rfl p.chk hp.chk H10.chk ?_)
            | (with_reducible show wpList _ _ _ (⟨_, .load 23 (.tmp 11), _, _, _, _⟩ :: _) _ _; refine wpL_load23 rfl _ rfl (w.heap.size + 1 + 1) 0 rfl p.sig hp.sig H10.sig ?_))
          refine hcall.mono ?_
          rintro e w11 ⟨rfl, b11⟩
          have H11 := H10.next b11 (Nat.le_refl _)
          clear hcall C10 V10 r10 hlen10 H10 s10 b11
          go_wp2
          go_ret
          exact ⟨rfl, H11.below⟩

end Go.Proofs.Qxb6604552a.Pend
