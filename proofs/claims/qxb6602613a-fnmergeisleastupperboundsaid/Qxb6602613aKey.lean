/-
  The keys of this program's maps: [12]byte (type 42) and replica.ID (type 44, a struct of one [12]byte). A key of twelve bytes xs lies as the cells 'u8s xs', and reads as '.string xs', at both types; and every key is of that shape.
-/
import Derived.Test.Qxb6602613aMid
import Derived.Test.Qxb6602613aRows
import Derived.Maps.RangeWalk
import Derived.Maps.Ext
import Derived.Maps.OwnOps
import Derived.DeepKeys4
import Derived.OpenShut
import Derived.WalkArith
namespace Go.Proofs.Qxb6602613a.Ver
open Go.RowKit
open Go.Proofs.Qxb6602613a.Mid
open Extern.Stop (cell)
open Go.ChangeShapes Go.WideShapes
open Go.Maps (Keyed)

theorem laidOut : laidOutB Try.prog = true := by kernel_rfl
theorem row42 : (42 : TypeId) < Try.prog.types.size := of_decide_eq_true (by kernel_rfl)
theorem row44 : (44 : TypeId) < Try.prog.types.size := of_decide_eq_true (by kernel_rfl)
theorem cells42 : Try.prog.cellsOf 42 = 12 := by kernel_rfl
theorem cells44 : Try.prog.cellsOf 44 = 12 := by kernel_rfl
theorem cells5 : Try.prog.cellsOf 5 = 1 := by kernel_rfl
theorem K42 : Keyed Try.prog 42 := Keyed.of_law (deep_law_laid laidOut (m := 4) (by omega) row42 (by kernel_rfl) (by kernel_rfl))
theorem K44 : Keyed Try.prog 44 := Keyed.of_law (deep_law_laid laidOut (m := 4) (by omega) row44 (by kernel_rfl) (by kernel_rfl))


/-! ### twelve bytes -/
theorem mapM_one (g : List Value → Option (List Lit)) : ∀ (cs : List Value) (n : Nat), cs.length = n → (List.range n).mapM (fun i => g ((cs.drop (i * 1)).take 1)) = cs.mapM (fun c => g [c])
  | [], n, h => by simp at h; subst h; rfl
  | c :: cs, n, h => by
    obtain ⟨m, rfl⟩ : ∃ m, n = m + 1 := ⟨cs.length, by simpa using h.symm⟩
    rw [List.range_succ_eq_map, List.mapM_cons, List.mapM_cons, List.mapM_map]
    have e := mapM_one g cs m (by simpa using h)
    have e2 : (fun i => g ((List.drop ((i + 1) * 1) (c :: cs)).take 1)) = fun i => g ((cs.drop (i * 1)).take 1) := by
      funext i
      simp
    simp only [Nat.succ_eq_add_one, Function.comp_def, e2, e]
    rfl

theorem lit_byte {d : Nat} {c : Value} {ls : List Lit} (h : Try.prog.keyLits (d + 1) 5 [c] = some ls) : ∃ x : UInt8, c = cell x ∧ ls = [.int .u8 (x.toNat : Int)] := by
  unfold Program.keyLits at h
  rw [Try.underlying5] at h
  cases c <;> simp at h
  rename_i q k
  obtain ⟨⟨rfl, hw⟩, rfl⟩ := h
  have hb := bounds_u8 hw
  have e : k = ((UInt8.ofNat k.toNat).toNat : Int) := by
    rw [UInt8.toNat_ofNat']
    show k = ((k.toNat % 256 : Nat) : Int)
    omega
  exact ⟨UInt8.ofNat k.toNat, by unfold cell; exact congrArg (Value.int .u8) e, by rw [← e]⟩

theorem lits_bytes {d : Nat} : ∀ {cs : List Value} {lss : List (List Lit)}, cs.mapM (fun c => Try.prog.keyLits (d + 1) 5 [c]) = some lss → ∃ xs : List UInt8, cs = u8s xs ∧ lss = xs.map (fun x => [.int .u8 (x.toNat : Int)])
  | [], lss, h => ⟨[], rfl, by simpa using h.symm⟩
  | c :: cs, lss, h => by
    rw [List.mapM_cons] at h
    cases h1 : Try.prog.keyLits (d + 1) 5 [c] with
    | none => rw [h1] at h; cases h
    | some l =>
      rw [h1] at h
      cases h2 : cs.mapM (fun c => Try.prog.keyLits (d + 1) 5 [c]) with
      | none => rw [h2] at h; cases h
      | some ls =>
        rw [h2] at h
        obtain ⟨x, rfl, rfl⟩ := lit_byte h1
        obtain ⟨xs, rfl, rfl⟩ := lits_bytes h2
        exact ⟨x :: xs, rfl, by injection h with h; exact h.symm⟩

theorem lits_u8s {d : Nat} : ∀ (xs : List UInt8), (u8s xs).mapM (fun c => Try.prog.keyLits (d + 1) 5 [c]) = some (xs.map (fun x => [.int .u8 (x.toNat : Int)]))
  | [] => rfl
  | x :: xs => by
    have h1 : Try.prog.keyLits (d + 1) 5 [cell x] = some [.int .u8 (x.toNat : Int)] := by
      unfold Program.keyLits cell
      rw [Try.underlying5]
      have hw : (Lit.int .u8 (x.toNat : Int)).wf = true := WalkArith.wf_u8 (by have := x.toNat_lt; omega)
      simp [hw]
    show (cell x :: u8s xs).mapM _ = _
    rw [List.mapM_cons, h1, lits_u8s xs]
    rfl

theorem bytes_lits : ∀ xs : List UInt8, keyBytes (xs.map (fun x => [Lit.int .u8 (x.toNat : Int)])).flatten = xs
  | [] => rfl
  | x :: xs => by
    have e := bytes_lits xs
    unfold keyBytes at e ⊢
    rw [List.map_cons, List.flatten_cons, List.flatMap_append, e]
    simp [Lit.keyBytes, bytesBE, bytesLE, IntKind.bits]
    apply UInt8.toNat_inj.1
    have := x.toNat_lt
    simp
    omega

theorem lits42 {d : Nat} {cs : List Value} {ls : List Lit} (h : Try.prog.keyLits (d + 2) 42 cs = some ls) : ∃ xs : List UInt8, xs.length = 12 ∧ cs = u8s xs ∧ keyBytes ls = xs := by
  rw [Program.keyLits.eq_def] at h
  simp only [Try.underlying42, cells42, cells5] at h
  split at h
  · rename_i hl
    rw [mapM_one _ cs 12 hl] at h
    obtain ⟨lss, hm, rfl⟩ := Option.map_eq_some_iff.1 h
    obtain ⟨xs, rfl, rfl⟩ := lits_bytes hm
    exact ⟨xs, by simpa [length_u8s] using hl, rfl, bytes_lits xs⟩
  · cases h

theorem lits42_mk {d : Nat} (xs : List UInt8) (hl : xs.length = 12) : Try.prog.keyLits (d + 2) 42 (u8s xs) = some (xs.map (fun x => [.int .u8 (x.toNat : Int)])).flatten := by
  rw [Program.keyLits.eq_def]
  simp only [Try.underlying42, cells42, cells5]
  rw [if_pos (by rw [length_u8s, hl]), mapM_one _ _ 12 (by rw [length_u8s, hl]), lits_u8s]
  rfl

theorem lits44 {d : Nat} {cs : List Value} {ls : List Lit} (h : Try.prog.keyLits (d + 3) 44 cs = some ls) : ∃ xs : List UInt8, xs.length = 12 ∧ cs = u8s xs ∧ keyBytes ls = xs := by
  rw [Program.keyLits.eq_def] at h
  simp only [Try.underlying44, cells44] at h
  split at h
  · rename_i hl
    obtain ⟨lss, hm, rfl⟩ := Option.map_eq_some_iff.1 h
    simp only [List.mapM_cons, List.mapM_nil, List.drop_zero, cells42] at hm
    rw [List.take_of_length_le (by omega)] at hm
    cases h1 : Try.prog.keyLits (d + 2) 42 cs with
    | none => rw [h1] at hm; cases hm
    | some l =>
      rw [h1] at hm
      obtain ⟨xs, e1, e2, e3⟩ := lits42 h1
      refine ⟨xs, e1, e2, ?_⟩
      injection hm with hm
      rw [← hm]
      simpa using e3
  · cases h

theorem lits44_mk {d : Nat} (xs : List UInt8) (hl : xs.length = 12) : Try.prog.keyLits (d + 3) 44 (u8s xs) = some (xs.map (fun x => [.int .u8 (x.toNat : Int)])).flatten := by
  rw [Program.keyLits.eq_def]
  simp only [Try.underlying44, cells44]
  rw [if_pos ⟨by rw [length_u8s, hl], by simp⟩]
  simp only [List.mapM_cons, List.mapM_nil, List.drop_zero, cells42]
  rw [List.take_of_length_le (by rw [length_u8s, hl]; omega), lits42_mk xs hl]
  simp

/-- A key's value. -/
abbrev kv (xs : List UInt8) : Value := .agg (u8s xs).toArray

theorem key44 (xs : List UInt8) (hl : xs.length = 12) : keyOf Try.prog 44 (kv xs) = some (.string xs) := by
  obtain ⟨d, hd⟩ : ∃ d, Try.prog.types.size + 1 = d + 3 := ⟨_, rfl⟩
  have hf : (kv xs).formed Try.prog 44 = true := by simp [Value.formed, Try.underlying44, cells44, length_u8s, hl]
  have hk : Try.prog.keyType 44 = true := by kernel_rfl
  unfold keyOf
  rw [Try.underlying44]
  simp only [hf, hk, Bool.and_true, if_true, hd, Value.cells]
  rw [lits44_mk xs hl, Option.map_some, bytes_lits]

theorem key42 (xs : List UInt8) (hl : xs.length = 12) : keyOf Try.prog 42 (kv xs) = some (.string xs) := by
  obtain ⟨d, hd⟩ : ∃ d, Try.prog.types.size + 1 = d + 2 := ⟨_, rfl⟩
  have hf : (kv xs).formed Try.prog 42 = true := by simp [Value.formed, Try.underlying42, cells42, length_u8s, hl]
  have hk : Try.prog.keyType 42 = true := by kernel_rfl
  unfold keyOf
  rw [Try.underlying42]
  simp only [hf, hk, Bool.and_true, if_true, hd, Value.cells]
  rw [lits42_mk xs hl, Option.map_some, bytes_lits]

theorem key44_inv {v : Value} {kl : Lit} (h : keyOf Try.prog 44 v = some kl) : ∃ xs : List UInt8, xs.length = 12 ∧ v = kv xs ∧ kl = .string xs := by
  obtain ⟨d, hd⟩ : ∃ d, Try.prog.types.size + 1 = d + 3 := ⟨_, rfl⟩
  have h0 := h
  unfold keyOf at h
  rw [Try.underlying44] at h
  simp only [hd] at h
  split at h
  · rename_i hf
    simp only [Bool.and_eq_true] at hf
    obtain ⟨ls, hls, rfl⟩ := Option.map_eq_some_iff.1 h
    obtain ⟨xs, e1, e2, e3⟩ := lits44 hls
    have hv : v = kv xs := by
      have hf2 := hf.2
      cases v <;> simp [Value.formed, Try.underlying44] at hf2
      simp only [Value.cells] at e2
      rw [kv, ← e2]
    exact ⟨xs, e1, hv, by rw [e3]⟩
  · cases h

end Go.Proofs.Qxb6602613a.Ver
