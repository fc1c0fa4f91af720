import Derived.Test.Qxb6604552aSame
namespace Go.Proofs.Qxb6604552a.Node
open Go.RowKit Mid
attribute [local simp] length_u8s

/-- nodesOf, whatever the slice. -/
theorem c10 (ao : Option Addr) (cap b off : Nat) (rows : List Row) (hok : ∀ r ∈ rows, r.Ok) (w : World) (hn : rows.length ≤ 65536) (h0 : 0 < w.heap.size)
    (hb : rows.length ≠ 0 → b < w.heap.size) (hrow : RowsOff w b off rows) (ha : rows.length ≠ 0 → ao = some ⟨b, off, none⟩) (hnil : ao = none → cap = 0) :
    Calls Try.prog 10 #[.slice ao rows.length cap] w fun e w' => ∃ a1 b1 c1, e = .returned (.slice a1 rows.length c1) ∧ (rows.length ≠ 0 → a1 = some ⟨b1, 0, none⟩) ∧ RowsAt w' b1 rows ∧ b1 < w'.heap.size ∧ Below w.heap.size w w' := by
  cases ao with
  | none =>
    obtain rfl := hnil rfl
    have hz : rows.length = 0 := by
      rcases Nat.eq_zero_or_pos rows.length with h | h
      · exact h
      · have := ha (by omega); cases this
    have hz' : rows = [] := List.eq_nil_of_length_eq_zero hz
    subst hz'
    refine (c10_nil w).mono ?_
    rintro e w' ⟨rfl, rfl⟩
    exact ⟨none, 0, 0, rfl, fun h => absurd rfl h, fun i hi => by simp at hi, h0, Below.refl _ _⟩
  | some A =>
    refine (c10_made A cap b off rows hok w hn hb hrow (fun h => by simpa using ha h)).mono ?_
    rintro e w' ⟨rfl, h1, h2, h3⟩
    exact ⟨_, _, _, rfl, fun _ => rfl, h1, h2, h3⟩

theorem zero30 (w : World) : (zeroValue 30).run Try.prog w = .ok (.agg (u8s (List.replicate 32 0)).toArray) w := by kernel_rfl
theorem size26 : (Try.prog.info? 26).map (·.size) = some 1 := by kernel_rfl

/-- What the law's walk knows of the look-ups: the first, in the rows, answers N1 and ok1; the second, in the rows and x, the row r2. -/
structure Looks (rows : List Row) (x : Row) (N1 : List Value) (ok1 : Bool) (r2 : Row) : Prop where
  len : N1.length = 131
  one : ∀ v ∈ N1, v.oneCell' = true
  ok : r2.Ok
  id : r2.id = x.id
  hit : ok1 = true → N1 = cells r2
  miss : ok1 = false → r2 = x
  first : ∀ (W : World) (b1 c1 : Nat) (a1 : Option Addr), b1 < W.heap.size → RowsAt W b1 rows → (rows.length ≠ 0 → a1 = some ⟨b1, 0, none⟩) →
    Calls Try.prog 11 #[.agg (stat (.slice a1 rows.length c1)).toArray, .agg (u8s x.id).toArray] W fun e w' => e = .returned (.tuple #[.agg N1.toArray, .bool ok1]) ∧ Below W.heap.size W w'
  second : ∀ (W : World) (b1 c1 : Nat), b1 < W.heap.size → RowsAt W b1 (rows ++ [x]) →
    Calls Try.prog 11 #[.agg (stat (.slice (some ⟨b1, 0, none⟩) (rows.length + 1) c1)).toArray, .agg (u8s x.id).toArray] W fun e w' => e = .returned (.tuple #[.agg (cells r2).toArray, .bool true]) ∧ Below W.heap.size W w'

theorem looks_of (rows : List Row) (x : Row) (hok : ∀ r ∈ rows, r.Ok) (hx : x.Ok) (hn : rows.length ≤ 65536) : ∃ N1 ok1 r2, Looks rows x N1 ok1 r2 := by
  have hokX : ∀ r ∈ rows ++ [x], r.Ok := by
    intro r hr
    rcases List.mem_append.1 hr with h | h
    · exact hok r h
    · simp at h; subst h; exact hx
  cases hf : rows.findIdx? (fun r => r.id == x.id) with
  | none =>
    have hno : ∀ j (hj : j < rows.length), (rows[j].id == x.id) = false := by
      intro j hj
      rw [List.findIdx?_eq_none_iff] at hf
      exact hf _ (List.getElem_mem hj)
    refine ⟨z38, false, x, length_z38, one_z38, hx, rfl, (fun h => by cases h), (fun _ => rfl), ?_, ?_⟩
    · intro W b1 c1 a1 hb1 hr ha1
      exact c11_none b1 c1 rows hok x.id hx.id W (by omega) hb1 hr a1 ha1 hno
    · intro W b1 c1 hb1 hr
      have := c11_hit b1 c1 (rows ++ [x]) hokX x.id hx.id W (by simp; omega) hb1 hr rows.length (by simp) (by simp) (fun j hj hlt => by
        rw [List.getElem_append_left hlt]; exact hno j hlt)
      simpa using this
  | some k =>
    obtain ⟨hk, hq, hno⟩ := List.findIdx?_eq_some_iff_getElem.1 hf
    have hid : rows[k].id = x.id := by simpa using hq
    refine ⟨cells rows[k], true, rows[k], length_cells (hok _ (List.getElem_mem hk)), one_cells _, hok _ (List.getElem_mem hk), hid, (fun _ => rfl), (fun h => by cases h), ?_, ?_⟩
    · intro W b1 c1 a1 hb1 hr ha1
      obtain rfl := ha1 (by omega)
      exact c11_hit b1 c1 rows hok x.id hx.id W (by omega) hb1 hr k hk hq (fun j hj hlt => by simpa using hno j hlt)
    · intro W b1 c1 hb1 hr
      have := c11_hit b1 c1 (rows ++ [x]) hokX x.id hx.id W (by simp; omega) hb1 hr k (by simp; omega) (by rw [List.getElem_append_left hk]; exact hq) (fun j hj hlt => by
        rw [List.getElem_append_left (by omega)]; simpa using hno j hlt)
      rw [List.getElem_append_left hk] at this
      simpa using this

end Go.Proofs.Qxb6604552a.Node
