/-
  Maps from replica.ID to uint64 as plain functions: 'Held B w v f N': the value v is a map that lies below block B, has at most N entries, and says f.
-/
import Derived.Test.Qxb6602613aKey
namespace Go.Proofs.Qxb6602613a.Ver
open Go.RowKit
open Go.Proofs.Qxb6602613a.Mid
open Go.Maps (Keyed)
open Go.WideElems (Fit rd rg pl rd_val rd_key rg_of elemAt)
open Go.ChangeMaps Go.MapKept Go.WideMaps Go.WideShapes

/-- What a map says. -/
abbrev Fn := List UInt8 → Option Int
/-- The empty map. -/
def nil0 : Fn := fun _ => none
/-- f with a at xs. -/
def Fn.set (f : Fn) (xs : List UInt8) (a : Int) : Fn := fun ys => if ys = xs then some a else f ys

def num : DataW Unit → Int
  | .lit (.int _ a) => a
  | _ => 0
def view (D : DataW Unit) : Fn := fun xs => if Maps.has D (.string xs) then some (num (D.atKey (.string xs) (.lit (.int .u64 0)))) else none

abbrev Own (w : World) (b n : Nat) (D : DataW Unit) : Prop := w.ownsMap Try.prog 44 (plainElem Try.prog 41) b n D

/-- s is how many keys f has. -/
def Tied (f : Fn) (s : Nat) : Prop := ∃ ks : List (List UInt8), ks.Nodup ∧ ks.length = s ∧ ∀ xs, (f xs).isSome = true ↔ xs ∈ ks

theorem sub_length {α : Type} : ∀ {l l' : List α}, l.Nodup → (∀ x, x ∈ l → x ∈ l') → l.length ≤ l'.length
  | [], l', _, _ => Nat.zero_le _
  | a :: l, l', hn, h => by
    obtain ⟨s, t, rfl⟩ := List.append_of_mem (h a (by simp))
    have hn' := List.nodup_cons.1 hn
    have := sub_length (l := l) (l' := s ++ t) hn'.2 (fun x hx => by
      have := h x (by simp [hx])
      simp only [List.mem_append, List.mem_cons] at this ⊢
      rcases this with h1 | h1 | h1
      · exact Or.inl h1
      · subst h1; exact absurd hx hn'.1
      · exact Or.inr h1)
    simp at this ⊢
    omega

theorem Tied.one {f : Fn} {s t : Nat} (h : Tied f s) (k : Tied f t) : s = t := by
  obtain ⟨ks, h1, h2, h3⟩ := h
  obtain ⟨ls, k1, k2, k3⟩ := k
  have e1 := sub_length h1 (l' := ls) (fun x hx => (k3 x).1 ((h3 x).2 hx))
  have e2 := sub_length k1 (l' := ks) (fun x hx => (h3 x).1 ((k3 x).2 hx))
  omega

theorem tied_nil : Tied nil0 0 := ⟨[], List.nodup_nil, rfl, fun xs => by simp [nil0]⟩

theorem tied_zero {f : Fn} {s : Nat} (h : Tied f s) : s = 0 ↔ f = nil0 := by
  constructor
  · intro h0
    rw [h0] at h
    obtain ⟨ks, _, h2, h3⟩ := h
    have : ks = [] := List.eq_nil_of_length_eq_zero h2
    subst this
    funext xs
    have := h3 xs
    cases hf : f xs
    · rfl
    · rw [hf] at this; simp at this
  · intro e
    subst e
    exact h.one tied_nil

theorem Own.tied {w : World} {b n : Nat} {D : DataW Unit} (h : Own w b n D) : Tied (view D) (Maps.size D) := by
  obtain ⟨es, clock, _, F, _, rfl⟩ := h
  have hap := ((sorted_perm (es.toList.map (rg Try.prog 44 (plainElem Try.prog 41)))).pairwise_iff (fun {_ _} (hne : _ ≠ _) => Ne.symm hne)).2 (Maps.fit_apart K44 F)
  have hstr : ∀ p ∈ (es.toList.map (rg Try.prog 44 (plainElem (H := Unit) Try.prog 41))).foldr DataW.insert [], ∃ xs, p.1 = .string xs := fun p hp => by
    obtain ⟨x, hx, rfl⟩ := List.mem_map.1 (mem_sorted.1 hp)
    obtain ⟨y, hy⟩ := F.reads x hx
    obtain ⟨xs, _, _, hk⟩ := key44_inv (rd_key hy)
    exact ⟨xs, by rw [rg_of hy]; exact hk⟩
  generalize (es.toList.map (rg Try.prog 44 (plainElem (H := Unit) Try.prog 41))).foldr DataW.insert [] = L at hap hstr
  refine ⟨L.map (fun p => match p.1 with | .string xs => xs | _ => []), ?_, by simp [Maps.size], fun xs => ?_⟩
  · unfold List.Nodup
    rw [List.pairwise_map]
    refine List.Pairwise.imp_of_mem ?_ hap
    intro p q hp hq hne e
    obtain ⟨xs, hx⟩ := hstr p hp
    obtain ⟨ys, hy⟩ := hstr q hq
    rw [hx, hy] at e
    simp only at e
    exact hne (by rw [hx, hy, e])
  · have e1 : (view (.map L) xs).isSome = Maps.has (.map L) (.string xs) := by
      unfold view
      cases Maps.has (DataW.map L) (.string xs) <;> rfl
    rw [e1, Maps.has_eq, List.any_eq_true, List.mem_map]
    constructor
    · rintro ⟨p, hp, hs⟩
      exact ⟨p, hp, by rw [WideAt.sameKey_eq hs]⟩
    · rintro ⟨p, hp, e⟩
      refine ⟨p, hp, ?_⟩
      obtain ⟨ys, hy⟩ := hstr p hp
      rw [hy] at e
      simp only at e
      rw [hy, e]
      simp [Lit.sameKey]

theorem view_empty : view (.map []) = nil0 := by
  funext xs
  simp [view, Maps.has, nil0]

theorem isKey (xs : List UInt8) (hl : xs.length = 12) : WideAt.IsKeyLit (.string xs) := K44.key (key44 xs hl)

theorem view_put {w : World} {b n : Nat} {D : DataW Unit} (h : Own w b n D) (xs : List UInt8) (hl : xs.length = 12) (a : Int) : view (D.put (.string xs) (.lit (.int .u64 a))) = (view D).set xs a := by
  obtain ⟨es, clock, _, F, _, hD⟩ := h
  have hm : Maps.IsMap D := ⟨_, hD⟩
  funext ys
  unfold view Fn.set
  by_cases e : ys = xs
  · subst e
    rw [Maps.has_put_same hm (isKey ys hl), Maps.atKey_put_same hm (isKey ys hl)]
    simp [num]
  · have hne : (Lit.string ys) ≠ .string xs := fun h => e (by injection h)
    rw [Maps.has_put_other hne, Maps.atKey_put_other hne, if_neg e]

end Go.Proofs.Qxb6602613a.Ver
