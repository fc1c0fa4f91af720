/-
  zzAgree and zzSame, at two maps that say the same.
-/
import Derived.Test.Qxb6602613aMinLaw
namespace Go.Proofs.Qxb6602613a.Ver
open Go.RowKit
open Go.Proofs.Qxb6602613a.Mid

set_option maxRecDepth 100000 in
set_option maxHeartbeats 2000000 in
theorem c27 (B sb n : Nat) (vx vy : Value) (f : Fn) (N M : Nat) (l : Loc) (ks : List (List UInt8)) (sn : Seen) (w : World) (hB : B ≤ sb) (hm : ks.length ≤ 131072) (hn : n ≤ 1048576) (hx : Held B w vx f N) (hy : Held B w vy f M) (hk : KeysLie B w l ks) (hs : SeenAt w sb n sn) :
    Calls Try.prog 27 #[vx, vy, l.val ks.length, .map (some sb)] w fun e w' => ∃ m : Nat, e = .returned (.tuple #[.bool true, .int .i64 m]) ∧ (∃ sn', m ≤ ks.length ∧ Tally f sn ks m sn' ∧ SeenAt w' sb (n + ks.length) sn' ∧ Below sb w w') := by
  have hz := zero44
  obtain ⟨ao, cap, b, off⟩ := l
  simp only [Loc.val]
  go_enter Try.func27, Try.ntmps27
  go_wp2
  go_loopw [10, 11] (fun c i wr => ∃ (k m : Nat) (sn' : Seen), k ≤ ks.length ∧ i = .int .i64 k ∧ c = .int .i64 m ∧ m ≤ k ∧ Tally f sn (ks.take k) m sn' ∧ (∃ n', n' ≤ n + k ∧ SeenAt wr sb n' sn') ∧ Below sb w wr) (fun _ i _ => ks.length - (intOf i).toNat)
  case atStart => exact ⟨0, 0, sn, Nat.zero_le _, rfl, rfl, Nat.le_refl _, tally_start f sn, ⟨n, Nat.le_refl _, hs⟩, Below.refl _ _⟩
  case round =>
    obtain ⟨k, m, sn', hk1, rfl, rfl, hmk, hT, ⟨n', hn', hS⟩, hnx⟩ := hrel
    by_cases hlt : k < ks.length
    · obtain ⟨e1, hb1⟩ := hk.addr (by omega)
      simp only at e1 hb1
      subst e1
      have hRw := hk.row k hlt
      have hR := rangeAt_below hnx (Nat.lt_of_lt_of_le hb1 hB) hRw
      have hL := hk.len k hlt
      have htk : ks.take (k + 1) = ks.take k ++ [ks[k]] := List.take_succ_eq_append_getElem hlt
      simp only at hR
      generalize ks[k] = xs at *
      cases hsx : sn' xs with
      | true =>
        go_wp2_with (first
          | (with_reducible show wpList _ _ _ (⟨_, .load 42 (.tmp 26), _, _, _, _⟩ :: _) _ _; refine wpL_load rfl 42 _ rfl b (off + k * 12) rfl (u8s xs) _ hR Try.underlying42 rfl (by rw [size42, length_u8s, hL]) ?_)
          | (with_reducible show wpList _ _ _ (⟨some 28, _, _, _, _, _⟩ :: _) _ _; refine wpL_seen rfl _ _ rfl rfl hS xs hL rfl true hsx ?_)
          | go_in)
        go_roundw
        case rel => exact ⟨k + 1, m, sn', by omega, by go_num, rfl, by omega, by rw [htk]; exact hT.skip hsx, ⟨n', by omega, hS⟩, hnx⟩
        case measure => simp [intOf]; omega
      | false =>
        go_upto_region 7 with (first
          | (with_reducible show wpList _ _ _ (⟨_, .load 42 (.tmp 26), _, _, _, _⟩ :: _) _ _; refine wpL_load rfl 42 _ rfl b (off + k * 12) rfl (u8s xs) _ hR Try.underlying42 rfl (by rw [size42, length_u8s, hL]) ?_)
          | (with_reducible show wpList _ _ _ (⟨_, .load 42 (.tmp 32), _, _, _, _⟩ :: _) _ _; refine wpL_load rfl 42 _ rfl b (off + k * 12) rfl (u8s xs) _ hR Try.underlying42 rfl (by rw [size42, length_u8s, hL]) ?_)
          | (with_reducible show wpList _ _ _ (⟨some 28, _, _, _, _, _⟩ :: _) _ _; refine wpL_seen rfl _ _ rfl rfl hS xs hL rfl false hsx ?_)
          | (at_mapUpdate; refine wpL_see rfl _ _ _ rfl rfl hS (by unfold maxLen; omega) xs hL rfl rfl ?_; intro w2 hS2 hg2)
          | go_in)
        have hnx2 : Below sb w w2 := hnx.grown hg2 (Nat.le_trans (Nat.le_of_lt hs.lt) hnx.size) (fun j hj => by cases hj; exact Nat.le_refl _)
        have hR2 := rangeAt_below hnx2 (Nat.lt_of_lt_of_le hb1 hB) (hRw)
        go_wp2_with (first
          | (with_reducible show wpList _ _ _ (⟨_, .load 42 (.tmp 36), _, _, _, _⟩ :: _) _ _; refine wpL_load rfl 42 _ rfl b (off + k * 12) rfl (u8s xs) _ hR2 Try.underlying42 rfl (by rw [size42, length_u8s, hL]) ?_)
          | fail)
        refine (c25 xs hL w2).mono ?_
        rintro e w3 ⟨rfl, hb3⟩
        have hS3 := (hS2.kept (grown_of_below hb3)).kept (grown_of_below (laid_below w3 xs))
        have hnx3 : Below sb w w3 := hnx2.trans (hb3.mono (Nat.le_trans (Nat.le_of_lt hs.lt) hnx2.size))
        have hnx4 : Below sb w (laid w3 xs) := hnx3.trans ((laid_below w3 xs).mono (Nat.le_trans (Nat.le_of_lt hs.lt) hnx3.size))
        have hLT := laid_there w3
        have hLR := laid_range w3 xs hL
        have qx := hx.below hnx4 hB
        have qy := hy.below hnx4 hB
        clear hS2 hnx2 hR2 hb3 hg2 hR hS hnx hnx3
        unfold laid at hS3 hnx4 hLR qx qy
        go_upto_region 8 with (first
          | (with_reducible show wpList _ _ _ (⟨_, .store 44 _ _, _, _, _, _⟩ :: _) _ _; refine wpL_store rfl 44 _ _ rfl w3.heap.size 0 (u8s xs) rfl rfl (by rw [length_u8s, hL]; exact hLT) (by rw [size44, length_u8s, hL]) (one_u8s xs) ?_)
          | fail)
        generalize w3.heap.size = B2 at *
        generalize hw4 : (w3.alloc (.cells z44.toArray 44)).setCells B2 0 (u8s xs) = w4 at *
        clear hw4 hLT
        cases hfx : f xs with
        | none =>
          go_wp2_with (first
            | (with_reducible show wpList _ _ _ (⟨_, .load 44 (.tmp 12), _, _, _, _⟩ :: _) _ _; refine wpL_load rfl 44 _ rfl B2 0 rfl (u8s xs) _ hLR Try.underlying44 rfl (by rw [size44, length_u8s, hL]) ?_)
            | (with_reducible show wpList _ _ _ (⟨some 42, _, _, _, _, _⟩ :: _) _ _; refine wpL_look_none rfl _ _ 25 rfl Try.underlying25 vx rfl qx xs hL rfl hfx ?_)
            | (with_reducible show wpList _ _ _ (⟨some 48, _, _, _, _, _⟩ :: _) _ _; refine wpL_look_none rfl _ _ 25 rfl Try.underlying25 vy rfl qy xs hL rfl hfx ?_)
            | go_in)
          go_roundw
          case rel => exact ⟨k + 1, m, _, by omega, by go_num, rfl, by omega, by rw [htk]; exact hT.miss hfx, ⟨n' + 1, by omega, hS3⟩, hnx4⟩
          case measure => simp [intOf]; omega
        | some y =>
          go_wp2_with (first
            | (with_reducible show wpList _ _ _ (⟨_, .load 44 (.tmp 12), _, _, _, _⟩ :: _) _ _; refine wpL_load rfl 44 _ rfl B2 0 rfl (u8s xs) _ hLR Try.underlying44 rfl (by rw [size44, length_u8s, hL]) ?_)
            | (with_reducible show wpList _ _ _ (⟨some 42, _, _, _, _, _⟩ :: _) _ _; refine wpL_look_some rfl _ _ 25 rfl Try.underlying25 vx rfl qx xs hL rfl y hfx ?_)
            | (with_reducible show wpList _ _ _ (⟨some 48, _, _, _, _, _⟩ :: _) _ _; refine wpL_look_some rfl _ _ 25 rfl Try.underlying25 vy rfl qy xs hL rfl y hfx ?_)
            | go_in)
          go_roundw
          case rel => exact ⟨k + 1, m + 1, _, by omega, by go_num, by go_num, by omega, by rw [htk]; exact hT.hit hsx hfx, ⟨n' + 1, by omega, hS3⟩, hnx4⟩
          case measure => simp [intOf]; omega
    · obtain rfl : k = ks.length := by omega
      go_wp2
      go_ret2
      rw [List.take_length] at hT
      exact ⟨m, rfl, sn', hmk, hT, hS.mono hn', hnx⟩

theorem c27n {k : Nat} (B sb n : Nat) (vx vy : Value) (f : Fn) (N M : Nat) (l : Loc) (ks : List (List UInt8)) (e1 : ks.length = k) (sn : Seen) (w : World) (hB : B ≤ sb) (hm : k ≤ 131072) (hn : n ≤ 1048576) (hx : Held B w vx f N) (hy : Held B w vy f M) (hk : KeysLie B w l ks) (hs : SeenAt w sb n sn) :
    Calls Try.prog 27 #[vx, vy, .slice l.ao k l.cap, .map (some sb)] w fun e w' => ∃ m : Nat, e = .returned (.tuple #[.bool true, .int .i64 m]) ∧ (∃ sn', m ≤ k ∧ Tally f sn ks m sn' ∧ SeenAt w' sb (n + k) sn' ∧ Below sb w w') := by
  subst e1
  exact c27 B sb n vx vy f N M l ks sn w hB hm hn hx hy hk hs

set_option maxRecDepth 100000 in
set_option maxHeartbeats 2000000 in
theorem c17 (B : Nat) (vx vy : Value) (f : Fn) (N M : Nat) (l1 l2 l3 : Loc) (ak bk ck : List (List UInt8)) (n1 n2 n3 : Nat) (E1 : Hid (ak.length = n1)) (E2 : Hid (bk.length = n2)) (E3 : Hid (ck.length = n3)) (w : World) (hB : B ≤ w.heap.size)
    (hn1 : n1 ≤ 131072) (hn2 : n2 ≤ 131072) (hn3 : n3 ≤ 131072) (hx : Held B w vx f N) (hy : Held B w vy f M) (k1 : KeysLie B w l1 ak) (k2 : KeysLie B w l2 bk) (k3 : KeysLie B w l3 ck)
    (hall : ∀ x, (f x).isSome = true → x ∈ ak ∨ x ∈ bk ∨ x ∈ ck) :
    Calls Try.prog 17 #[vx, vy, .slice l1.ao n1 l1.cap, .slice l2.ao n2 l2.cap, .slice l3.ao n3 l3.cap] w fun e w' => e = .returned (.bool true) ∧ Below w.heap.size w w' := by
  have hmm := @run_makeMap Try.prog
  have hA : Below w.heap.size w (w.alloc (.map #[] 0)) := (Below.refl _ _).alloc (Nat.le_refl _) _
  go_enter Try.func17, Try.ntmps17
  go_wp2_with fail
  refine (c27n B w.heap.size 0 vx vy f N M l1 ak E1.out seen0 (w.alloc (.map #[] 0)) hB (by omega) (by omega) (hx.below hA hB) (hy.below hA hB) (k1.below hA hB) (seen_made w)).mono ?_
  rintro e w2 ⟨m1, rfl, sn1, hm1, hT1, hS1, hb2'⟩
  have hb2 : Below w.heap.size w w2 := hA.trans hb2'
  go_wp2_with fail
  refine (c27n B w.heap.size (0 + n1) vx vy f N M l2 bk E2.out sn1 w2 hB (by omega) (by omega) (hx.below hb2 hB) (hy.below hb2 hB) (k2.below hb2 hB) hS1).mono ?_
  rintro e w3 ⟨m2, rfl, sn2, hm2, hT2, hS2, hb3'⟩
  have hb3 : Below w.heap.size w w3 := hb2.trans hb3'
  go_wp2_with fail
  refine (c27n B w.heap.size (0 + n1 + n2) vx vy f N M l3 ck E3.out sn2 w3 hB (by omega) (by omega) (hx.below hb3 hB) (hy.below hb3 hB) (k3.below hb3 hB) hS2).mono ?_
  rintro e w4 ⟨m3, rfl, sn3, hm3, hT3, hS3, hb4'⟩
  have hb4 : Below w.heap.size w w4 := hb3.trans hb4'
  have hcard : Tied f (m1 + m2 + m3) := ((hT1.then hT2).then hT3).tied (fun x hx => by
    rcases hall x hx with h | h | h
    · exact List.mem_append.2 (Or.inl (List.mem_append.2 (Or.inl h)))
    · exact List.mem_append.2 (Or.inl (List.mem_append.2 (Or.inr h)))
    · exact List.mem_append.2 (Or.inr h))
  have lx := (hx.below hb4 hB).len hcard Try.underlying25
  have ly := (hy.below hb4 hB).len hcard Try.underlying25
  clear hT1 hT2 hT3 hS1 hS2 hS3 hb2' hb3' hb4' hb2 hb3 hcard hA
  go_wp2
  go_ret
  exact ⟨by simp, hb4⟩

end Go.Proofs.Qxb6602613a.Ver
