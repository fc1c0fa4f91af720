import Derived.Test.Qxb6604552aCts
namespace Go.Proofs.Qxb6604552a.Pend
open Go.RowKit Mid
open Go.Proofs.Qxb6604552a.Node (wpL_load30 wpL_eql30 wpL_neq30 size23 size30 size5)
attribute [local simp] length_u8s

set_option maxRecDepth 100000 in
set_option maxHeartbeats 400000 in
theorem c31_nil (w : World) : Calls Try.prog 31 #[.slice none 0 0] w fun e w' => e = .returned (.slice none 0 0) ∧ w = w' := by
  have hnil := fun (w : World) (a : Option Addr) (n c : Nat) => Lib.run_eql_slice_nil (P := Try.prog) w 45 80 a n c 0 0 Try.underlying45
  go_enter Try.func31, Try.ntmps31
  go_wp2
  go_ret
  exact ⟨rfl, rfl⟩

set_option maxRecDepth 100000 in
set_option maxHeartbeats 1000000 in
theorem c31_made (A : Addr) (cap b off : Nat) (cts : List Ct) (w : World) (hn : cts.length ≤ 65536) (ha : cts.length ≠ 0 → A = ⟨b, off, none⟩ ∧ b < w.heap.size) (hcts : CtsAt w b off cts) :
    Calls Try.prog 31 #[.slice (some A) cts.length cap] w fun e w' => e = .returned (.slice (some ⟨w.heap.size, 0, none⟩) cts.length cts.length) ∧ ∃ new, new.length = cts.length ∧ Filled cts w.heap.size w w' new := by
  obtain ⟨i0, hi, hz0, hz1, hz2⟩ := info_parts info68
  have hnil := fun (w : World) (a : Option Addr) (n c : Nat) => Lib.run_eql_slice_nil (P := Try.prog) w 45 80 a n c 0 0 Try.underlying45
  go_enter Try.func31, Try.ntmps31
  go_wp2_with (at_make; refine wpList_make_full _ rfl _ _ 55 rfl w.heap.size 68 i0 (.agg z68.toArray) 33 Try.underlying55 hi hz0 hz1 _ _ _ _ cts.length rfl rfl rfl rfl (by rw [hz2]; omega) (by unfold maxLen; omega) (by simp) ?_)
  intro w1 hown hgr
  have HF : Filled cts w.heap.size w w1 [] := by
    obtain ⟨h1, h2, h3⟩ := made_facts rfl hown hgr
    exact ⟨Nat.zero_le _, h1, fun i h => by simp at h, fun i h => by simp at h, fun i h => by simp at h, fun i h => by simp at h, h2, h3⟩
  clear hown hgr
  go_wp2
  go_loopw [4] (fun i wr => ∃ new : List Ct, i = .int .i64 (new.length : Int) ∧ Filled cts w.heap.size w wr new) (fun i _ => cts.length - (intOf i).toNat)
  case atStart => exact ⟨[], rfl, HF⟩
  case round =>
    clear HF
    obtain ⟨new, rfl, HF⟩ := hrel
    have hlen := HF.len
    by_cases hlt : new.length < cts.length
    · obtain ⟨rfl, hb⟩ := ha (by omega)
      have hR := rangeAt_below HF.below hb (hcts.row new.length hlt)
      have hL := (hcts.buf new.length hlt).below HF.below (fun hn => ((hcts.buf new.length hlt).addr hn).2)
      have hK := hcts.rek new.length hlt
      have HX : Hid (∃ c, c = cts[new.length]) := ⟨_, rfl⟩
      obtain ⟨c, hc⟩ := HX.out
      rw [← hc] at hR hL hK
      have HC : Hid (c = cts[new.length]) := hc
      clear hc HX
      generalize hnk : new.length = k at *
      have HN : Hid (new.length = k) := hnk
      clear hnk
      have hR1 := rangeAt_left hR
      have hR2 := rangeAt_cell (rangeAt_right (off + k * 33 + 32) (by simp [hK]) hR)
      go_wp2
      refine wp_region_held (S := fun w' => w'.rangeAt b (off + k * 33) (u8s c.rek) ∧ w'.cell? ⟨b, off + k * 33 + 32, none⟩ = some c.buf.val) (by kernel_rfl) ?_
      have hS : wr.drew.rangeAt b (off + k * 33) (u8s c.rek) ∧ wr.drew.cell? ⟨b, off + k * 33 + 32, none⟩ = some c.buf.val := ⟨hR1, hR2⟩
      refine take_at 0 16 rfl rfl (by decide +kernel) (by decide +kernel) (by decide +kernel) (fun _ _ _ h => h) (take_val rfl (fun _ _ => rfl)) hS ?_
      simp only [Act.put, List.setIfInBounds_toArray, List.set_cons_zero, List.set_cons_succ]
      refine take_at 1 17 rfl rfl (by decide +kernel) (by decide +kernel) (by decide +kernel) (fun _ _ _ h => h) (take_val rfl (fun _ _ => rfl)) hS ?_
      simp only [Act.put, List.setIfInBounds_toArray, List.set_cons_zero, List.set_cons_succ]
      refine take_at 2 18 rfl rfl (by decide +kernel) (by decide +kernel) (by decide +kernel) (fun _ _ _ h => h) (take_val rfl (fun _ _ => rfl)) hS ?_
      simp only [Act.put, List.setIfInBounds_toArray, List.set_cons_zero, List.set_cons_succ]
      refine take_at 3 19 rfl rfl (by decide +kernel) (by decide +kernel) (by decide +kernel) (fun _ _ _ h => h) (take_val rfl (fun _ _ => rfl)) hS ?_
      simp only [Act.put, List.setIfInBounds_toArray, List.set_cons_zero, List.set_cons_succ]
      refine take_at 4 20 rfl rfl (by decide +kernel) (by decide +kernel) (by decide +kernel) (fun _ _ _ h => h) (take_val rfl (fun w _ => exec_index rfl b off cts.length cap k 33 rfl rfl hlt Try.underlying45 (sz80 w))) hS ?_
      simp only [Act.put, List.setIfInBounds_toArray, List.set_cons_zero, List.set_cons_succ]
      refine take_at 5 21 rfl rfl (by decide +kernel) (by decide +kernel) (by decide +kernel) (fun _ _ _ h => h) (take_val (v := .pointer (some ⟨b, off + k * 33, none⟩)) rfl (fun _ _ => by kernel_rfl)) hS ?_
      simp only [Act.put, List.setIfInBounds_toArray, List.set_cons_zero, List.set_cons_succ]
      refine take_at 6 22 rfl rfl (by decide +kernel) (by decide +kernel) (by decide +kernel) (fun _ _ _ h => h) (yieldsIf_load_mid rfl 23 _ rfl b (off + k * 33) rfl (u8s c.rek) _ (fun _ h => h.1) Try.underlying23 rfl (by rw [size23]; simp [hK])) hS ?_
      simp only [Act.put, List.setIfInBounds_toArray, List.set_cons_zero, List.set_cons_succ]
      refine take_at 7 23 rfl rfl (by decide +kernel) (by decide +kernel) (by decide +kernel) (fun _ _ _ h => h) (take_val rfl (fun _ _ => rfl)) hS ?_
      simp only [Act.put, List.setIfInBounds_toArray, List.set_cons_zero, List.set_cons_succ]
      refine take_at 8 24 rfl rfl (by decide +kernel) (by decide +kernel) (by decide +kernel) (fun _ _ _ h => h) (take_val rfl (fun _ _ => rfl)) hS ?_
      simp only [Act.put, List.setIfInBounds_toArray, List.set_cons_zero, List.set_cons_succ]
      refine take_at 9 25 rfl rfl (by decide +kernel) (by decide +kernel) (by decide +kernel) (fun _ _ _ h => h) (take_val rfl (fun w _ => exec_index rfl b off cts.length cap k 33 rfl rfl hlt Try.underlying45 (sz80 w))) hS ?_
      simp only [Act.put, List.setIfInBounds_toArray, List.set_cons_zero, List.set_cons_succ]
      refine take_at 10 26 rfl rfl (by decide +kernel) (by decide +kernel) (by decide +kernel) (fun _ _ _ h => h) (take_val (v := .pointer (some ⟨b, off + k * 33 + 32, none⟩)) rfl (fun _ _ => by kernel_rfl)) hS ?_
      simp only [Act.put, List.setIfInBounds_toArray, List.set_cons_zero, List.set_cons_succ]
      refine take_at 11 27 rfl rfl (by decide +kernel) (by decide +kernel) (by decide +kernel) (fun _ _ _ h => h) (take_val rfl (fun w h => exec_load1 rfl b (off + k * 33 + 32) c.buf.val _ rfl h.2 Try.underlying65 rfl)) hS ?_
      simp only [Act.put, List.setIfInBounds_toArray, List.set_cons_zero, List.set_cons_succ]
      have hL' : c.buf.Lies wr.drew := ⟨hL.addr, hL.row, hL.nil, hL.small⟩
      have HF' : Filled cts w.heap.size w wr.drew new := HF.next (Below.refl _ _).drew
      refine one_enter 12 28 rfl rfl (by decide +kernel) rfl 37 #[c.buf.val] (by kernel_rfl) _ _ (c37 c.buf wr.drew hL') ?_
      simp only [Act.put, List.setIfInBounds_toArray, List.set_cons_zero, List.set_cons_succ]
      rintro w2 ⟨hl2, hb2⟩
      have HF2 := HF'.next hb2
      have hlw : b < wr.drew.heap.size := Nat.lt_of_lt_of_le hb HF'.below.size
      have hS2 : w2.rangeAt b (off + k * 33) (u8s c.rek) ∧ w2.cell? ⟨b, off + k * 33 + 32, none⟩ = some c.buf.val := ⟨rangeAt_below hb2 hlw hS.1, by rw [hb2.cell (by exact hlw)]; exact hS.2⟩
      have hcn := cloned_new c.buf wr.drew hL'
      have hcb := cloned_bs c.buf wr.drew
      have hcz := cloned_nil c.buf wr.drew
      have hsz := HF'.size
      generalize hcl : cloned c.buf wr.drew = f at *
      clear hcl
      refine ⟨hS2, ?_⟩
      refine one_val 13 29 rfl rfl (by decide +kernel) rfl _ _ (exec_build68 _ _ rfl ⟨c.rek, f⟩ hK rfl rfl) hS2 ?_
      simp only [Act.put, List.setIfInBounds_toArray, List.set_cons_zero, List.set_cons_succ]
      refine one_val 14 30 rfl rfl (by decide +kernel) rfl _ _ (exec_index rfl w.heap.size 0 cts.length cts.length k 33 rfl rfl hlt Try.underlying55 (sz68 _)) hS2 ?_
      simp only [Act.put, List.setIfInBounds_toArray, List.set_cons_zero, List.set_cons_succ]
      have hT := HF2.room k hlt
      have HP := HF2.put (by rw [HN.out]; exact hlt) ⟨c.rek, f⟩ ⟨by simp only [HN.out, ← HC.out], by simp only [HN.out, ← HC.out, hcb], by simp only [HN.out, ← HC.out, hcz]⟩ hK hl2 (fun hn => by rw [hcn hn]; exact hsz)
      rw [HN.out] at HP
      refine one_store 15 rfl rfl (by decide +kernel) rfl 68 _ _ rfl w.heap.size (0 + k * 33) (ctCells ⟨c.rek, f⟩) rfl rfl (by rw [length_ct (c := ⟨c.rek, f⟩) hK, Nat.zero_add]; exact hT) (by rw [size68, length_ct (c := ⟨c.rek, f⟩) hK]) (one_ct _) ?_ ?_
      · exact ⟨World.rangeAt_setCells_apart hS2.1 _ _ _ (Or.inl (by omega)), by rw [World.cell?_setCells_out _ _ _ _ _ (fun h _ => absurd h (by show ¬ b = w.heap.size; omega))]; exact hS2.2⟩
      rw [Nat.zero_add]
      refine wpAnyH_done (by decide +kernel) ?_ _
      clear hS hS2 hL' HF' HF2 hT hl2 hb2 hcn hcb hcz hsz hR1 hR2 hlw hL hR HF
      generalize hw3 : w2.setCells w.heap.size (k * 33) (ctCells ⟨c.rek, f⟩) = w3 at *
      clear hw3
      go_wp2
      go_roundw
      case rel => exact ⟨new ++ [⟨c.rek, f⟩], by rw [List.length_append, HN.out]; go_num, HP⟩
      case measure => simp [intOf]; omega
    · have hnew : new.length = cts.length := by omega
      have HN : Hid (new.length = cts.length) := hnew
      clear hnew
      go_wp2
      go_ret
      exact ⟨rfl, new, HN.out, HF⟩

end Go.Proofs.Qxb6604552a.Pend
