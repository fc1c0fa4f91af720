/-
  zzCount and zzIncludes.
-/
import Derived.Test.Qxb6602613aSeen
namespace Go.Proofs.Qxb6602613a.Ver
open Go.RowKit
open Go.Proofs.Qxb6602613a.Mid

set_option maxRecDepth 100000 in
set_option maxHeartbeats 2000000 in
theorem c13 (B sb n : Nat) (v : Value) (f : Fn) (N : Nat) (l : Loc) (ks : List (List UInt8)) (sn : Seen) (w : World) (hB : B ≤ sb) (hm : ks.length ≤ 131072) (hn : n ≤ 1048576) (hf : Held B w v f N) (hk : KeysLie B w l ks) (hs : SeenAt w sb n sn) :
    Calls Try.prog 13 #[v, l.val ks.length, .map (some sb)] w fun e w' => ∃ m : Nat, e = .returned (.int .i64 m) ∧ (∃ sn', m ≤ ks.length ∧ Tally f sn ks m sn' ∧ SeenAt w' sb (n + ks.length) sn' ∧ Below sb w w') := by
  obtain ⟨ao, cap, b, off⟩ := l
  simp only [Loc.val]
  go_enter Try.func13, Try.ntmps13
  go_wp2
  go_loopw [7, 8] (fun c i wr => ∃ (k m : Nat) (sn' : Seen), k ≤ ks.length ∧ i = .int .i64 k ∧ c = .int .i64 m ∧ m ≤ k ∧ Tally f sn (ks.take k) m sn' ∧ (∃ n', n' ≤ n + k ∧ SeenAt wr sb n' sn') ∧ Below sb w wr) (fun _ i _ => ks.length - (intOf i).toNat)
  case atStart => exact ⟨0, 0, sn, Nat.zero_le _, rfl, rfl, Nat.le_refl _, tally_start f sn, ⟨n, Nat.le_refl _, hs⟩, Below.refl _ _⟩
  case round =>
    obtain ⟨k, m, sn', hk1, rfl, rfl, hmk, hT, ⟨n', hn', hS⟩, hnx⟩ := hrel
    by_cases hlt : k < ks.length
    · obtain ⟨e1, hb1⟩ := hk.addr (by omega)
      simp only at e1 hb1
      subst e1
      have hRw := hk.row k hlt
      have hR := rangeAt_below hnx (Nat.lt_of_lt_of_le hb1 hB) hRw
      have hL := hk.len k hlt
      have htk : ks.take (k + 1) = ks.take k ++ [ks[k]] := List.take_succ_eq_append_getElem hlt
      simp only at hR
      generalize ks[k] = xs at *
      cases hsx : sn' xs with
      | true =>
        go_wp2_with (first
          | (with_reducible show wpList _ _ _ (⟨_, .load 42 (.tmp 20), _, _, _, _⟩ :: _) _ _; refine wpL_load rfl 42 _ rfl b (off + k * 12) rfl (u8s xs) _ hR Try.underlying42 rfl (by rw [size42, length_u8s, hL]) ?_)
          | (with_reducible show wpList _ _ _ (⟨some 22, _, _, _, _, _⟩ :: _) _ _; refine wpL_seen rfl _ _ rfl rfl hS xs hL rfl true hsx ?_)
          | go_in)
        go_roundw
        case rel => exact ⟨k + 1, m, sn', by omega, by go_num, rfl, by omega, by rw [htk]; exact hT.skip hsx, ⟨n', by omega, hS⟩, hnx⟩
        case measure => simp [intOf]; omega
      | false =>
        go_upto_region 7 with (first
          | (with_reducible show wpList _ _ _ (⟨_, .load 42 (.tmp 20), _, _, _, _⟩ :: _) _ _; refine wpL_load rfl 42 _ rfl b (off + k * 12) rfl (u8s xs) _ hR Try.underlying42 rfl (by rw [size42, length_u8s, hL]) ?_)
          | (with_reducible show wpList _ _ _ (⟨_, .load 42 (.tmp 26), _, _, _, _⟩ :: _) _ _; refine wpL_load rfl 42 _ rfl b (off + k * 12) rfl (u8s xs) _ hR Try.underlying42 rfl (by rw [size42, length_u8s, hL]) ?_)
          | (with_reducible show wpList _ _ _ (⟨some 22, _, _, _, _, _⟩ :: _) _ _; refine wpL_seen rfl _ _ rfl rfl hS xs hL rfl false hsx ?_)
          | (at_mapUpdate; refine wpL_see rfl _ _ _ rfl rfl hS (by unfold maxLen; omega) xs hL rfl rfl ?_; intro w2 hS2 hg2)
          | go_in)
        have hnx2 : Below sb w w2 := hnx.grown hg2 (Nat.le_trans (Nat.le_of_lt hs.lt) hnx.size) (fun j hj => by cases hj; exact Nat.le_refl _)
        have hR2 := rangeAt_below hnx2 (Nat.lt_of_lt_of_le hb1 hB) (hRw)
        go_wp2_with (first
          | (with_reducible show wpList _ _ _ (⟨_, .load 42 (.tmp 32), _, _, _, _⟩ :: _) _ _; refine wpL_load rfl 42 _ rfl b (off + k * 12) rfl (u8s xs) _ hR2 Try.underlying42 rfl (by rw [size42, length_u8s, hL]) ?_)
          | fail)
        refine (c25 xs hL w2).mono ?_
        rintro e w3 ⟨rfl, hb3⟩
        have hS3 := hS2.kept (grown_of_below hb3)
        have hnx3 : Below sb w w3 := hnx2.trans (hb3.mono (Nat.le_trans (Nat.le_of_lt hs.lt) hnx2.size))
        have hf3 := hf.below hnx3 hB
        clear hS2 hnx2 hR2 hb3 hg2 hR hS hnx
        cases hfx : f xs with
        | none =>
          go_wp2_with (first
            | (at_lookup; refine wpL_look_none rfl _ _ 25 rfl Try.underlying25 v rfl hf3 xs hL rfl hfx ?_)
            | go_in)
          go_roundw
          case rel => exact ⟨k + 1, m, _, by omega, by go_num, rfl, by omega, by rw [htk]; exact hT.miss hfx, ⟨n' + 1, by omega, hS3⟩, hnx3⟩
          case measure => simp [intOf]; omega
        | some y =>
          go_wp2_with (first
            | (at_lookup; refine wpL_look_some rfl _ _ 25 rfl Try.underlying25 v rfl hf3 xs hL rfl y hfx ?_)
            | go_in)
          go_roundw
          case rel => exact ⟨k + 1, m + 1, _, by omega, by go_num, by go_num, by omega, by rw [htk]; exact hT.hit hsx hfx, ⟨n' + 1, by omega, hS3⟩, hnx3⟩
          case measure => simp [intOf]; omega
    · obtain rfl : k = ks.length := by omega
      go_wp2
      go_ret
      rw [List.take_length] at hT
      exact ⟨m, rfl, sn', hmk, hT, hS.mono hn', hnx⟩

def Includes (h s : Fn) (ks : List (List UInt8)) : Prop := ∃ x, x ∈ ks ∧ ∃ n, s x = some n ∧ n ≤ (h x).getD 0

set_option maxRecDepth 100000 in
set_option maxHeartbeats 2000000 in
theorem c15 (B : Nat) (vh vs : Value) (h s : Fn) (N M : Nat) (l : Loc) (ks : List (List UInt8)) (p : Bool) (hp0 : Hid (p = true ↔ Includes h s ks)) (w : World) (hB : B ≤ w.heap.size) (hm : ks.length ≤ 131072)
    (hh : Held B w vh h N) (hs : Held B w vs s M) (hk : KeysLie B w l ks) :
    Calls Try.prog 15 #[vh, vs, l.val ks.length] w fun e w' => e = .returned (.bool p) ∧ Below w.heap.size w w' := by
  have hz := zero44
  obtain ⟨ao, cap, b, off⟩ := l
  simp only [Loc.val]
  go_enter Try.func15, Try.ntmps15
  go_wp2
  go_loopw [7] (fun i wr => ∃ k : Nat, k ≤ ks.length ∧ i = .int .i64 k ∧ Below w.heap.size w wr ∧ ¬ Includes h s (ks.take k)) (fun i _ => ks.length - (intOf i).toNat)
  case atStart => exact ⟨0, Nat.zero_le _, rfl, Below.refl _ _, fun ⟨x, hx, _⟩ => by simp at hx⟩
  case round =>
    obtain ⟨k, hk1, rfl, hnx, hno⟩ := hrel
    by_cases hlt : k < ks.length
    · obtain ⟨e1, hb1⟩ := hk.addr (by omega)
      simp only at e1 hb1
      subst e1
      have hR := rangeAt_below hnx (Nat.lt_of_lt_of_le hb1 hB) (hk.row k hlt)
      have hL := hk.len k hlt
      have hmem : ks[k] ∈ ks := List.getElem_mem hlt
      have htk : ks.take (k + 1) = ks.take k ++ [ks[k]] := List.take_succ_eq_append_getElem hlt
      simp only at hR
      generalize ks[k] = xs at *
      go_wp2_with (first
        | (with_reducible show wpList _ _ _ (⟨_, .load 42 (.tmp 19), _, _, _, _⟩ :: _) _ _; refine wpL_load rfl 42 _ rfl b (off + k * 12) rfl (u8s xs) _ hR Try.underlying42 rfl (by rw [size42, length_u8s, hL]) ?_)
        | fail)
      refine (c25 xs hL wr).mono ?_
      rintro e w2 ⟨rfl, hb2⟩
      have hnx2 : Below w.heap.size w w2 := hnx.trans (hb2.mono hnx.size)
      have hT := laid_there w2
      have hR2 := laid_range w2 xs hL
      have hnx3 : Below w.heap.size w (laid w2 xs) := hnx2.trans ((laid_below w2 xs).mono hnx2.size)
      have qh := hh.below hnx3 hB
      have qs := hs.below hnx3 hB
      unfold laid at hR2 hnx3 qh qs
      clear hb2 hnx2 hR hnx
      go_upto_region 5 with (first
        | (with_reducible show wpList _ _ _ (⟨_, .store 44 _ _, _, _, _, _⟩ :: _) _ _; refine wpL_store rfl 44 _ _ rfl w2.heap.size 0 (u8s xs) rfl rfl (by rw [length_u8s, hL]; exact hT) (by rw [size44, length_u8s, hL]) (one_u8s xs) ?_)
        | fail)
      generalize w2.heap.size = B2 at *
      generalize hw3 : (w2.alloc (.cells z44.toArray 44)).setCells B2 0 (u8s xs) = w3 at *
      clear hw3 hT
      cases hf : s xs with
      | none =>
        go_wp2_with (first
          | (with_reducible show wpList _ _ _ (⟨_, .load 44 (.tmp 8), _, _, _, _⟩ :: _) _ _; refine wpL_load rfl 44 _ rfl B2 0 rfl (u8s xs) _ hR2 Try.underlying44 rfl (by rw [size44, length_u8s, hL]) ?_)
          | (with_reducible show wpList _ _ _ (⟨some 25, _, _, _, _, _⟩ :: _) _ _; refine wpL_look_none rfl _ _ 25 rfl Try.underlying25 vs rfl qs xs hL rfl hf ?_)
          | go_in)
        go_roundw
        case rel =>
          refine ⟨k + 1, by omega, by go_num, hnx3, ?_⟩
          rw [htk]
          rintro ⟨x, hx, n, e, hle⟩
          rcases List.mem_append.1 hx with h1 | h1
          · exact hno ⟨x, h1, n, e, hle⟩
          · obtain rfl := List.mem_singleton.1 h1
            rw [hf] at e
            cases e
        case measure => simp [intOf]; omega
      | some n =>
        have hlk := qh.look Try.underlying25 hL
        generalize hhx : (h xs).getD 0 = y at *
        by_cases hle : n ≤ y
        · have hyes : p = true := yes_of hp0.out ⟨xs, hmem, n, hf, by rw [hhx]; exact hle⟩
          go_wp2_with (first
            | (with_reducible show wpList _ _ _ (⟨_, .load 44 (.tmp 8), _, _, _, _⟩ :: _) _ _; refine wpL_load rfl 44 _ rfl B2 0 rfl (u8s xs) _ hR2 Try.underlying44 rfl (by rw [size44, length_u8s, hL]) ?_)
            | (with_reducible show wpList _ _ _ (⟨some 25, _, _, _, _, _⟩ :: _) _ _; refine wpL_look_some rfl _ _ 25 rfl Try.underlying25 vs rfl qs xs hL rfl n hf ?_)
            | go_in)
          go_ret
          exact ⟨by rw [hyes]; rfl, hnx3⟩
        · go_wp2_with (first
            | (with_reducible show wpList _ _ _ (⟨_, .load 44 (.tmp 8), _, _, _, _⟩ :: _) _ _; refine wpL_load rfl 44 _ rfl B2 0 rfl (u8s xs) _ hR2 Try.underlying44 rfl (by rw [size44, length_u8s, hL]) ?_)
            | (with_reducible show wpList _ _ _ (⟨some 25, _, _, _, _, _⟩ :: _) _ _; refine wpL_look_some rfl _ _ 25 rfl Try.underlying25 vs rfl qs xs hL rfl n hf ?_)
            | go_in)
          go_roundw
          case rel =>
            refine ⟨k + 1, by omega, by go_num, hnx3, ?_⟩
            rw [htk]
            rintro ⟨x, hx, n', e, hle'⟩
            rcases List.mem_append.1 hx with h1 | h1
            · exact hno ⟨x, h1, n', e, hle'⟩
            · obtain rfl := List.mem_singleton.1 h1
              rw [hf] at e
              cases e
              rw [hhx] at hle'
              exact hle hle'
          case measure => simp [intOf]; omega
    · obtain rfl : k = ks.length := by omega
      go_wp2
      go_ret
      rw [List.take_length] at hno
      exact ⟨by rw [no_of hp0.out hno]; rfl, hnx⟩

end Go.Proofs.Qxb6602613a.Ver
