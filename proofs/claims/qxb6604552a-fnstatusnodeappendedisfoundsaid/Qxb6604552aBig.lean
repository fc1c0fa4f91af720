import Derived.Test.Qxb6604552aNodes
namespace Go.Proofs.Qxb6604552a.Node
open Go.RowKit Mid
attribute [local simp] length_u8s

theorem row_addr {w : World} {b off : Nat} {rows : List Row} (h : RowsOff w b off rows) (hok : ∀ r ∈ rows, r.Ok) {k : Nat} (hk : k < rows.length) : w.cell? ⟨b, off + k * 131 + 98, none⟩ = some (.string rows[k].addr) :=
  (parts_of (hok _ (List.getElem_mem hk)) (h k hk)).addr

/-- The call answered a bool: which one is not told. -/
def SomeBool (e : Ending) : Prop := ∃ q, e = .returned (.bool q)
theorem SomeBool.mk (q : Bool) : SomeBool (.returned (.bool q)) := ⟨q, rfl⟩

set_option maxRecDepth 100000 in
set_option maxHeartbeats 400000 in
theorem c9 (ao : Option Addr) (cap b off : Nat) (rows : List Row) (t0 : Int) (hok : ∀ r ∈ rows, r.Ok) (w : World) (hn : rows.length ≤ 65536)
    (hrow : RowsOff w b off rows) (ha : rows.length ≠ 0 → ao = some ⟨b, off, none⟩) :
    Calls Try.prog 9 #[.slice ao rows.length cap, .int .i64 t0] w fun e w' => SomeBool e ∧ w = w' := by
  by_cases h0 : 1048576 < t0
  · go_enter Try.func9, Try.ntmps9
    go_wp2
    go_ret
    exact ⟨.mk _, rfl⟩
  go_enter Try.func9, Try.ntmps9
  go_wp2
  go_loop [5, 6] (fun t i => ∃ (k : Nat) (s : Int), k ≤ rows.length ∧ i = .int .i64 k ∧ t = .int .i64 s) (fun _ i => rows.length - (intOf i).toNat)
  case atStart => exact ⟨0, _, Nat.zero_le _, rfl, rfl⟩
  case round =>
    obtain ⟨k, s, hk, rfl, rfl⟩ := hrel
    by_cases hlt : k < rows.length
    · have hA := row_addr hrow hok hlt
      obtain rfl := ha (by omega)
      generalize rows[k].addr = ad at hA
      go_wp2
      · go_ret
        exact ⟨.mk _, rfl⟩
      · go_round
        case rel => exact ⟨k + 1, _, by omega, by go_num, rfl⟩
        case measure => simp [intOf]; omega
    · go_wp2
      go_ret
      exact ⟨.mk _, rfl⟩

set_option maxRecDepth 100000 in
set_option maxHeartbeats 1000000 in
theorem c13 (ao : Option Addr) (cap b off : Nat) (rows : List Row) (x : Row) (hx : x.Ok) (hok : ∀ r ∈ rows, r.Ok) (w : World) (hn : rows.length ≤ 1048576) (hb : rows.length ≠ 0 → b < w.heap.size)
    (hrow : RowsOff w b off rows) (ha : rows.length ≠ 0 → ao = some ⟨b, off, none⟩) :
    Calls Try.prog 13 #[.slice ao rows.length cap, .agg (cells x).toArray] w fun e w' => SomeBool e ∧ Below w.heap.size w w' := by
  have hB : Below w.heap.size w (w.alloc (.cells (cells x).toArray 42)) := (Below.refl _ _).alloc (Nat.le_refl _) _
  have hp : Parts (w.alloc (.cells (cells x).toArray 42)) w.heap.size 0 x := parts_of hx (rangeAt_new _ _ _)
  have hxa := hp.addr
  have hrow' := rowsOff_below hB hb hrow
  clear hp
  generalize hxd : x.addr = xa at hxa
  clear hxd
  simp only [Nat.zero_add] at hxa
  go_enter Try.func13, Try.ntmps13
  go_wp2
  go_loop [5, 6] (fun t i => ∃ (k : Nat) (s : Int), k ≤ rows.length ∧ i = .int .i64 k ∧ t = .int .i64 s ∧ s ≤ 1048576 ∧ 0 ≤ s) (fun _ i => rows.length - (intOf i).toNat)
  case atStart => exact ⟨0, _, Nat.zero_le _, rfl, rfl, by omega, by omega⟩
  case round =>
    obtain ⟨k, s, hk, rfl, rfl, hs, hs0⟩ := hrel
    by_cases hlt : k < rows.length
    · have hA := row_addr hrow' hok hlt
      obtain rfl := ha (by omega)
      generalize rows[k].addr = ad at hA
      go_wp2
      case roundEnd =>
        go_round
        case rel => exact ⟨k + 1, _, by omega, by go_num, rfl, by assumption, by omega⟩
        case measure => simp [intOf]; omega
      all_goals
        go_ret
        exact ⟨.mk _, hB⟩
    · go_wp2
      all_goals
        go_ret
        exact ⟨.mk _, hB⟩

set_option maxRecDepth 100000 in
set_option maxHeartbeats 400000 in
theorem c13_long (ao : Option Addr) (n cap : Nat) (x : Row) (w : World) (hn : 1048576 < n) :
    Calls Try.prog 13 #[.slice ao n cap, .agg (cells x).toArray] w fun e w' => e = .returned (.bool false) ∧ Below w.heap.size w w' := by
  have hn' : (1048576 : Int) < (n : Int) := by omega
  go_enter Try.func13, Try.ntmps13
  go_wp2
  go_ret
  exact ⟨rfl, (Below.refl _ _).alloc (Nat.le_refl _) _⟩

end Go.Proofs.Qxb6604552a.Node
