import Derived.Test.Qxb6604552aBase
namespace Go.Proofs.Qxb6604552a.Pend
open Go.RowKit Mid
open Go.Proofs.Qxb6604552a.Node (wpL_load30 wpL_eql30 wpL_neq30 size23 size30 size5)
attribute [local simp] length_u8s

/-- The zero Pending. -/
def pz : Pd := ⟨zid, 0, 0, zid, zid⟩
theorem pz_ok : pz.Ok := ⟨rfl, rfl, rfl⟩
theorem z59_pz : z59 = pcells pz (.slice none 0 0) (.slice none 0 0) := by kernel_rfl

set_option maxRecDepth 100000 in
set_option maxHeartbeats 1000000 in
theorem c20 (w : World) : Calls Try.prog 20 #[.agg z59.toArray] w fun e w' => e = .returned (.bool true) ∧ Below w.heap.size w w' := by
  rw [z59_pz]
  have P0 := pparts_of pz_ok (rangeAt_new w (pcells pz (.slice none 0 0) (.slice none 0 0)) 59)
  have B0 : Below w.heap.size w (w.alloc (.cells (pcells pz (.slice none 0 0) (.slice none 0 0)).toArray 59)) := (Below.refl _ _).alloc (Nat.le_refl _) _
  have n55 := fun (w : World) (a : Option Addr) (n c : Nat) => Lib.run_eql_slice_nil (P := Try.prog) w 55 68 a n c 0 0 Try.underlying55
  have n33 := fun (w : World) (a : Option Addr) (n c : Nat) => Lib.run_eql_slice_nil (P := Try.prog) w 33 30 a n c 0 0 Try.underlying33
  go_enter Try.func20, Try.ntmps20
  go_upto_region 1 with fail
  generalize hw0 : w.alloc (.cells (pcells pz (.slice none 0 0) (.slice none 0 0)).toArray 59) = w0 at *
  clear hw0
  have q0 : w0.rangeAt w.heap.size 0 (u8s zid) := P0.prop
  have q1 : w0.cell? ⟨w.heap.size, 32, none⟩ = some (.int .u64 0) := P0.gen
  have q2 : w0.cell? ⟨w.heap.size, 33, none⟩ = some (.int .u64 0) := P0.ep
  have q3 : w0.rangeAt w.heap.size 34 (u8s zid) := P0.chk
  have q4 : w0.rangeAt w.heap.size 66 (u8s zid) := P0.sig
  have q5 : w0.cell? ⟨w.heap.size, 98, none⟩ = some (.slice none 0 0) := P0.cts
  have q6 : w0.cell? ⟨w.heap.size, 99, none⟩ = some (.slice none 0 0) := P0.conf
  clear P0
  have hzz : (zid == zid) = true := by simp
  go_wp2_with (first
    | (with_reducible show wpList _ _ _ (⟨_, .load 30 (.tmp 3), _, _, _, _⟩ :: _) _ _; refine wpL_load30 rfl _ rfl w.heap.size 0 rfl zid length_zid q0 ?_)
    | (with_reducible show wpList _ _ _ (⟨_, .load 30 (.tmp 21), _, _, _, _⟩ :: _) _ _; refine wpL_load30 rfl _ rfl w.heap.size 34 rfl zid length_zid q3 ?_)
    | (with_reducible show wpList _ _ _ (⟨_, .load 30 (.tmp 28), _, _, _, _⟩ :: _) _ _; refine wpL_load30 rfl _ rfl w.heap.size 66 rfl zid length_zid q4 ?_)
    | (with_reducible show wpList _ _ _ (⟨_, .build 30 _, _, _, _, _⟩ :: _) _ _; refine wpL_build rfl 30 [] rfl [] rfl _ (build30_zero _) ?_)
    | (with_reducible show wpList _ _ _ (⟨_, .binOp .eql 30 _ _ _, _, _, _, _⟩ :: _) _ _; refine wpL_eql30 rfl _ _ rfl zid zid rfl rfl length_zid length_zid ?_))
  go_ret
  exact ⟨rfl, B0⟩

set_option maxRecDepth 100000 in
set_option maxHeartbeats 4000000 in
theorem held_walk (pr : Bool) (p : Pd) (hp : p.Ok) (l1 l2 : Loc) (cts : List Ct) (vals : List (List UInt8)) (w : World) (h1 : CtsOpen w l1 cts) (h2 : ValsLie w l2 vals) :
    Calls Try.prog 5 #[.bool pr, .agg (u8s p.prop).toArray, .int .u64 p.gen, .int .u64 p.ep, .agg (u8s p.chk).toArray, .agg (u8s p.sig).toArray, l1.val cts.length, l2.val vals.length] w fun e w' => e = .returned (.bool true) ∧ Below w.heap.size w w' := by
  have H0 := base_start w p h1 h2
  have E1 : l1.val cts.length = .slice l1.ao cts.length l1.cap := rfl
  have E2 : l2.val vals.length = .slice l2.ao vals.length l2.cap := rfl
  go_enter Try.func5, Try.ntmps5
  go_upto_region 1 with fail
  unfold three at H0
  generalize hw0 : ((w.alloc (.cells (u8s p.prop).toArray 23)).alloc (.cells (u8s p.chk).toArray 23)).alloc (.cells (u8s p.sig).toArray 23) = w0 at *
  clear hw0
  go_wp2_with (first
    | (with_reducible show wpList _ _ _ (⟨_, .load 23 (.tmp 9), _, _, _, _⟩ :: _) _ _; refine wpL_load23 rfl _ rfl w.heap.size 0 rfl p.prop hp.prop H0.prop ?_)
    | (with_reducible show wpList _ _ _ (⟨_, .load 23 (.tmp 12), _, _, _, _⟩ :: _) _ _; refine wpL_load23 rfl _ rfl (w.heap.size + 1) 0 rfl p.chk hp.chk H0.chk ?_)
    | (with_reducible show wpList _ _ _ (⟨_, .load 23 (.tmp 13), _, _, _, _⟩ :: _) _ _; refine wpL_load23 rfl _ rfl (w.heap.size + 1 + 1) 0 rfl p.sig hp.sig H0.sig ?_))
  refine (c14 pr p l1 l2 cts vals.length w0 H0.cts).mono ?_
  rintro e w1 ⟨⟨q, rfl, hq⟩, b1⟩
  have H1 := H0.next b1 (Nat.le_refl _)
  clear H0 b1
  cases q
  · go_wp2
    go_ret
    exact ⟨rfl, H1.below⟩
  have hsm := hq rfl
  have HSM : Hid (∀ i (h : i < cts.length), cts[i].buf.bs.length ≤ 1048576) := hsm
  clear hsm hq
  by_cases g1 : 65536 < cts.length
  · have g1' : (65536 : Int) < (cts.length : Int) := by omega
    go_wp2
    go_ret
    exact ⟨rfl, H1.below⟩
  have g1' : (cts.length : Int) ≤ 65536 := by omega
  by_cases g2 : 65536 < vals.length
  · have g2' : (65536 : Int) < (vals.length : Int) := by omega
    go_wp2
    go_ret
    exact ⟨rfl, H1.below⟩
  have g2' : (vals.length : Int) ≤ 65536 := by omega
  have d1 : decide (65536 < (cts.length : Int)) = false := by simp; omega
  have d2 : decide (65536 < (vals.length : Int)) = false := by simp; omega
  go_wp2_with fail
  refine (c15 l1 l2 cts vals.length w1 (by omega) (by omega) H1.cts).mono ?_
  rintro e w2 ⟨⟨q, rfl⟩, rfl⟩
  cases q
  case true =>
    go_wp2
    go_ret
    exact ⟨rfl, H1.below⟩
  go_wp2_with fail
  refine (c16 l2 vals w1 (by omega) H1.vals).mono ?_
  rintro e w2 ⟨⟨q, rfl⟩, b2⟩
  have H2 := H1.next b2 (Nat.le_refl _)
  clear H1 b2
  cases q
  · go_wp2
    go_ret
    exact ⟨rfl, H2.below⟩
  have hz59 := zero59
  cases pr
  · go_wp2_with fail
    refine (c18 _ w2).mono ?_
    rintro e w4 ⟨rfl, hcl, hsz, b4⟩
    have H4 := H2.next b4 (Nat.le_refl _)
    generalize hbl : w2.heap.size = bl at *
    have hbl4 : bl < w4.heap.size := by omega
    clear b4 hbl hsz
    go_wp2_with fail
    refine (c19_none bl w4 hbl4 hcl).mono ?_
    rintro e w5 ⟨rfl, b5⟩
    have H5 := H4.next b5 (Nat.le_refl _)
    clear H4 b5 hcl
    obtain ⟨r6, b6, s6, t6, _⟩ := laid w5 z59 z59 59 rfl
    have H6 := H5.next b6 (Nat.le_refl _)
    go_upto_region 14 with (with_reducible show wpList _ _ _ (⟨_, .store 59 _ _, _, _, _, _⟩ :: _) _ _; refine wpL_store rfl 59 _ _ rfl w5.heap.size 0 z59 rfl rfl t6 (by rw [size59, length_z59]) one_z59 ?_)
    generalize hw6 : (w5.alloc (.cells z59.toArray 59)).setCells w5.heap.size 0 z59 = w6 at *
    clear hw6
    generalize hb19 : w5.heap.size = b19 at *
    clear hb19
    go_wp2_with (with_reducible show wpList _ _ _ (⟨_, .load 59 (.tmp 19), _, _, _, _⟩ :: _) _ _; refine wpL_load rfl 59 _ rfl b19 0 rfl z59 _ r6 Try.underlying59 rfl (by rw [size59, length_z59]) ?_)
    refine (c20 w6).mono ?_
    rintro e w7 ⟨rfl, b7⟩
    have H7 := H6.next b7 (Nat.le_refl _)
    clear H6 H5 b6 b7 r6 t6
    go_wp2
    go_ret
    exact ⟨rfl, H7.below⟩
  go_wp2_with (first
    | (with_reducible show wpList _ _ _ (⟨_, .load 23 (.tmp 9), _, _, _, _⟩ :: _) _ _; refine wpL_load23 rfl _ rfl w.heap.size 0 rfl p.prop hp.prop H2.prop ?_)
    | (with_reducible show wpList _ _ _ (⟨_, .load 23 (.tmp 12), _, _, _, _⟩ :: _) _ _; refine wpL_load23 rfl _ rfl (w.heap.size + 1) 0 rfl p.chk hp.chk H2.chk ?_)
    | (with_reducible show wpList _ _ _ (⟨_, .load 23 (.tmp 13), _, _, _, _⟩ :: _) _ _; refine wpL_load23 rfl _ rfl (w.heap.size + 1 + 1) 0 rfl p.sig hp.sig H2.sig ?_))
  refine (c17 p hp l1 l2 cts vals w2 (by omega) (by omega) (H2.cts.lie HSM.out) H2.vals).mono ?_
  rintro e w3 ⟨bp, m1, m2, new, rfl, hsame, hm1, hm2, HP3, b3⟩
  have H3 := H2.next b3 (Nat.le_refl _)
  clear H2 b3
  have HSA : Hid (SameAll new cts) := hsame
  have HM1 : Hid (m1.ao.isNone = l1.ao.isNone) := hm1
  have HM2 : Hid (m2.ao.isNone = l2.ao.isNone) := hm2
  have HLN : Hid (new.length = cts.length) := hsame.len
  clear hsame hm1 hm2
  go_wp2_with fail
  refine (c18 _ w3).mono ?_
  rintro e w4 ⟨rfl, hcl, hsz, b4⟩
  have H4 := H3.next b4 (Nat.le_refl _)
  have HP4 := HP3.below b4 (Nat.le_refl _)
  generalize hbl : w3.heap.size = bl at *
  clear H3 b4 HP3
  have hbl4 : bl < w4.heap.size := by omega
  clear hbl hsz
  go_wp2_with fail
  refine (c19 bl bp p hp m1 m2 new vals w4 hbl4 hcl HP4 (by rw [HLN.out]; omega) (by omega)).mono ?_
  rintro e w5 ⟨k1, k2, rfl, HO⟩
  have H5 := H4.next HO.below (Nat.le_refl _)
  obtain ⟨r6, b6, s6, t6, _⟩ := laid w5 z59 (pcells p (k1.val new.length) (k2.val vals.length)) 59 (by rw [length_z59, length_pcells hp])
  have hlen6 := length_pcells hp (k1.val new.length) (k2.val vals.length)
  go_upto_region 14 with (with_reducible show wpList _ _ _ (⟨_, .store 59 _ _, _, _, _, _⟩ :: _) _ _; refine wpL_store rfl 59 _ _ rfl w5.heap.size 0 (pcells p (k1.val new.length) (k2.val vals.length)) rfl rfl t6 (by rw [size59, hlen6]) (one_pcells rfl rfl) ?_)
  have H6 := H5.next b6 (Nat.le_refl _)
  have C6 := HO.hcts.below b6 (Nat.le_refl _)
  have V6 := HO.hvals.below b6 (Nat.le_refl _)
  have hz1 : k1.ao.isNone = l1.ao.isNone := HO.nil1.trans HM1.out
  have hz2 : k2.ao.isNone = l2.ao.isNone := HO.nil2.trans HM2.out
  clear HO H5 b6 t6 H4 HP4 hcl
  generalize hw6 : (w5.alloc (.cells z59.toArray 59)).setCells w5.heap.size 0 (pcells p (k1.val new.length) (k2.val vals.length)) = w6 at *
  clear hw6
  generalize hb19 : w5.heap.size = b19 at *
  clear hb19
  have hcall := c21' p hp l1 l2 k1 k2 cts new vals w6 (by omega) (by omega) HSA.out hz1 hz2 (H6.cts.lie HSM.out) H6.vals C6 V6
  clear hz1 hz2
  go_wp2_with (first
    | (with_reducible show wpList _ _ _ (⟨_, .load 59 (.tmp 19), _, _, _, _⟩ :: _) _ _; refine wpL_load rfl 59 _ rfl b19 0 rfl (pcells p (k1.val new.length) (k2.val vals.length)) _ r6 Try.underlying59 rfl (by rw [size59, hlen6]) ?_)
    | (with_reducible show wpList _ _ _ (⟨_, .load 23 (.tmp 9), _, _, _, _⟩ :: _) _ _; refine wpL_load23 rfl _ rfl w.heap.size 0 rfl p.prop hp.prop H6.prop ?_)
    | (with_reducible show wpList _ _ _ (⟨_, .load 23 (.tmp 12), _, _, _, _⟩ :: _) _ _; refine wpL_load23 rfl _ rfl (w.heap.size + 1) 0 rfl p.chk hp.chk H6.chk ?_)
    | (with_reducible show wpList _ _ _ (⟨_, .load 23 (.tmp 13), _, _, _, _⟩ :: _) _ _; refine wpL_load23 rfl _ rfl (w.heap.size + 1 + 1) 0 rfl p.sig hp.sig H6.sig ?_))
  refine hcall.mono ?_
  rintro e w7 ⟨rfl, b7⟩
  have H7 := H6.next b7 (Nat.le_refl _)
  clear hcall C6 V6 r6 hlen6 H6 s6 b7
  go_wp2
  go_ret
  exact ⟨rfl, H7.below⟩

end Go.Proofs.Qxb6604552a.Pend
