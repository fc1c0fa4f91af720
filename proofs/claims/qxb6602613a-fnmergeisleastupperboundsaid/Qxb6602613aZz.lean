/-
  The bounds on the total length, laid by program: each answers some bool, and turns nothing.
-/
import Derived.Test.Qxb6602613aLaws
import Derived.LoopTactic
namespace Go.Proofs.Qxb6602613a.Ver
open Go.RowKit
open Go.Proofs.Qxb6602613a.Mid

def SomeBool (e : Ending) : Prop := ∃ q, e = .returned (.bool q)
theorem SomeBool.mk (q : Bool) : SomeBool (.returned (.bool q)) := ⟨q, rfl⟩

set_option maxRecDepth 100000 in
set_option maxHeartbeats 2000000 in
theorem c9 (a0 b0 : Option Addr) (n0 m0 c0 d0 : Nat) (a1 b1 : Option Addr) (n1 m1 c1 d1 : Nat) (w : World) :
    Calls Try.prog 9 #[.slice a0 n0 c0, .slice b0 m0 d0, .slice a1 n1 c1, .slice b1 m1 d1] w fun e w' => SomeBool e ∧ w = w' := by
  by_cases h0 : 1048576 < n0
  · have h0' : (1048576 : Int) < (n0 : Int) := by omega
    go_enter Try.func9, Try.ntmps9
    go_wp2
    go_ret
    exact ⟨.mk _, rfl⟩
  have h0' : (n0 : Int) ≤ 1048576 := by omega
  go_enter Try.func9, Try.ntmps9
  go_wp2
  go_loop [9, 10] (fun t i => ∃ (k : Nat) (s : Int), k ≤ n0 ∧ i = .int .i64 k ∧ t = .int .i64 s ∧ 0 ≤ s ∧ s ≤ 1048576) (fun _ i => n0 - (intOf i).toNat)
  case atStart => exact ⟨0, _, Nat.zero_le _, rfl, rfl, by omega, by omega⟩
  case round =>
    obtain ⟨k0, s0, hk0, rfl, rfl, hs0, ht0⟩ := hrel
    by_cases hl0 : k0 < n0
    · go_wp2
      case roundEnd =>
        have hsum : s0 + 12 ≤ 1048576 := by assumption
        go_round
        case rel => exact ⟨k0 + 1, _, by omega, by go_num, rfl, by omega, by omega⟩
        case measure => simp [intOf]; omega
      all_goals
        go_ret
        exact ⟨.mk _, rfl⟩
    by_cases p0 : 1048576 < m0
    · have p0' : (1048576 : Int) < (m0 : Int) := by omega
      go_wp2
      go_ret
      exact ⟨.mk _, rfl⟩
    have p0' : (m0 : Int) ≤ 1048576 := by omega
    by_cases q0 : 1048576 < s0 + (m0 : Int)
    · go_wp2
      go_ret
      exact ⟨.mk _, rfl⟩
    have q0' : s0 + (m0 : Int) ≤ 1048576 := by omega
    by_cases u0 : 1048576 < n1
    · have u0' : (1048576 : Int) < (n1 : Int) := by omega
      go_wp2
      go_ret
      exact ⟨.mk _, rfl⟩
    have u0' : (n1 : Int) ≤ 1048576 := by omega
    by_cases v0 : 1048576 < s0 + (m0 : Int) + (n1 : Int)
    · go_wp2
      go_ret
      exact ⟨.mk _, rfl⟩
    have v0' : s0 + (m0 : Int) + (n1 : Int) ≤ 1048576 := by omega
    go_wp2
    go_loop [9, 11] (fun t i => ∃ (k : Nat) (s : Int), k ≤ n1 ∧ i = .int .i64 k ∧ t = .int .i64 s ∧ 0 ≤ s ∧ s ≤ 1048576) (fun _ i => n1 - (intOf i).toNat)
    case atStart => exact ⟨0, _, Nat.zero_le _, rfl, rfl, by omega, by omega⟩
    case round =>
      obtain ⟨k1, s1, hk1, rfl, rfl, hs1, ht1⟩ := hrel
      by_cases hl1 : k1 < n1
      · go_wp2
        case roundEnd =>
          have hsum : s1 + 12 ≤ 1048576 := by assumption
          go_round
          case rel => exact ⟨k1 + 1, _, by omega, by go_num, rfl, by omega, by omega⟩
          case measure => simp [intOf]; omega
        all_goals
          go_ret
          exact ⟨.mk _, rfl⟩
      by_cases p1 : 1048576 < m1
      · have p1' : (1048576 : Int) < (m1 : Int) := by omega
        go_wp2
        go_ret
        exact ⟨.mk _, rfl⟩
      have p1' : (m1 : Int) ≤ 1048576 := by omega
      by_cases q1 : 1048576 < s1 + (m1 : Int)
      · go_wp2
        go_ret
        exact ⟨.mk _, rfl⟩
      have q1' : s1 + (m1 : Int) ≤ 1048576 := by omega
      go_wp2
      go_ret
      exact ⟨.mk _, rfl⟩

set_option maxRecDepth 100000 in
set_option maxHeartbeats 2000000 in
theorem c14 (a0 b0 : Option Addr) (n0 m0 c0 d0 : Nat) (a1 b1 : Option Addr) (n1 m1 c1 d1 : Nat) (a2 b2 : Option Addr) (n2 m2 c2 d2 : Nat) (w : World) :
    Calls Try.prog 14 #[.slice a0 n0 c0, .slice b0 m0 d0, .slice a1 n1 c1, .slice b1 m1 d1, .slice a2 n2 c2, .slice b2 m2 d2] w fun e w' => SomeBool e ∧ w = w' := by
  by_cases h0 : 1048576 < n0
  · have h0' : (1048576 : Int) < (n0 : Int) := by omega
    go_enter Try.func14, Try.ntmps14
    go_wp2
    go_ret
    exact ⟨.mk _, rfl⟩
  have h0' : (n0 : Int) ≤ 1048576 := by omega
  go_enter Try.func14, Try.ntmps14
  go_wp2
  go_loop [13, 14] (fun t i => ∃ (k : Nat) (s : Int), k ≤ n0 ∧ i = .int .i64 k ∧ t = .int .i64 s ∧ 0 ≤ s ∧ s ≤ 1048576) (fun _ i => n0 - (intOf i).toNat)
  case atStart => exact ⟨0, _, Nat.zero_le _, rfl, rfl, by omega, by omega⟩
  case round =>
    obtain ⟨k0, s0, hk0, rfl, rfl, hs0, ht0⟩ := hrel
    by_cases hl0 : k0 < n0
    · go_wp2
      case roundEnd =>
        have hsum : s0 + 12 ≤ 1048576 := by assumption
        go_round
        case rel => exact ⟨k0 + 1, _, by omega, by go_num, rfl, by omega, by omega⟩
        case measure => simp [intOf]; omega
      all_goals
        go_ret
        exact ⟨.mk _, rfl⟩
    by_cases p0 : 1048576 < m0
    · have p0' : (1048576 : Int) < (m0 : Int) := by omega
      go_wp2
      go_ret
      exact ⟨.mk _, rfl⟩
    have p0' : (m0 : Int) ≤ 1048576 := by omega
    by_cases q0 : 1048576 < s0 + (m0 : Int)
    · go_wp2
      go_ret
      exact ⟨.mk _, rfl⟩
    have q0' : s0 + (m0 : Int) ≤ 1048576 := by omega
    by_cases u0 : 1048576 < n1
    · have u0' : (1048576 : Int) < (n1 : Int) := by omega
      go_wp2
      go_ret
      exact ⟨.mk _, rfl⟩
    have u0' : (n1 : Int) ≤ 1048576 := by omega
    by_cases v0 : 1048576 < s0 + (m0 : Int) + (n1 : Int)
    · go_wp2
      go_ret
      exact ⟨.mk _, rfl⟩
    have v0' : s0 + (m0 : Int) + (n1 : Int) ≤ 1048576 := by omega
    go_wp2
    go_loop [13, 15] (fun t i => ∃ (k : Nat) (s : Int), k ≤ n1 ∧ i = .int .i64 k ∧ t = .int .i64 s ∧ 0 ≤ s ∧ s ≤ 1048576) (fun _ i => n1 - (intOf i).toNat)
    case atStart => exact ⟨0, _, Nat.zero_le _, rfl, rfl, by omega, by omega⟩
    case round =>
      obtain ⟨k1, s1, hk1, rfl, rfl, hs1, ht1⟩ := hrel
      by_cases hl1 : k1 < n1
      · go_wp2
        case roundEnd =>
          have hsum : s1 + 12 ≤ 1048576 := by assumption
          go_round
          case rel => exact ⟨k1 + 1, _, by omega, by go_num, rfl, by omega, by omega⟩
          case measure => simp [intOf]; omega
        all_goals
          go_ret
          exact ⟨.mk _, rfl⟩
      by_cases p1 : 1048576 < m1
      · have p1' : (1048576 : Int) < (m1 : Int) := by omega
        go_wp2
        go_ret
        exact ⟨.mk _, rfl⟩
      have p1' : (m1 : Int) ≤ 1048576 := by omega
      by_cases q1 : 1048576 < s1 + (m1 : Int)
      · go_wp2
        go_ret
        exact ⟨.mk _, rfl⟩
      have q1' : s1 + (m1 : Int) ≤ 1048576 := by omega
      by_cases u1 : 1048576 < n2
      · have u1' : (1048576 : Int) < (n2 : Int) := by omega
        go_wp2
        go_ret
        exact ⟨.mk _, rfl⟩
      have u1' : (n2 : Int) ≤ 1048576 := by omega
      by_cases v1 : 1048576 < s1 + (m1 : Int) + (n2 : Int)
      · go_wp2
        go_ret
        exact ⟨.mk _, rfl⟩
      have v1' : s1 + (m1 : Int) + (n2 : Int) ≤ 1048576 := by omega
      go_wp2
      go_loop [13, 16] (fun t i => ∃ (k : Nat) (s : Int), k ≤ n2 ∧ i = .int .i64 k ∧ t = .int .i64 s ∧ 0 ≤ s ∧ s ≤ 1048576) (fun _ i => n2 - (intOf i).toNat)
      case atStart => exact ⟨0, _, Nat.zero_le _, rfl, rfl, by omega, by omega⟩
      case round =>
        obtain ⟨k2, s2, hk2, rfl, rfl, hs2, ht2⟩ := hrel
        by_cases hl2 : k2 < n2
        · go_wp2
          case roundEnd =>
            have hsum : s2 + 12 ≤ 1048576 := by assumption
            go_round
            case rel => exact ⟨k2 + 1, _, by omega, by go_num, rfl, by omega, by omega⟩
            case measure => simp [intOf]; omega
          all_goals
            go_ret
            exact ⟨.mk _, rfl⟩
        by_cases p2 : 1048576 < m2
        · have p2' : (1048576 : Int) < (m2 : Int) := by omega
          go_wp2
          go_ret
          exact ⟨.mk _, rfl⟩
        have p2' : (m2 : Int) ≤ 1048576 := by omega
        by_cases q2 : 1048576 < s2 + (m2 : Int)
        · go_wp2
          go_ret
          exact ⟨.mk _, rfl⟩
        have q2' : s2 + (m2 : Int) ≤ 1048576 := by omega
        go_wp2
        go_ret
        exact ⟨.mk _, rfl⟩

set_option maxRecDepth 100000 in
set_option maxHeartbeats 2000000 in
theorem c16 (a0 b0 : Option Addr) (n0 m0 c0 d0 : Nat) (a1 b1 : Option Addr) (n1 m1 c1 d1 : Nat) (a2 b2 : Option Addr) (n2 m2 c2 d2 : Nat) (w : World) :
    Calls Try.prog 16 #[.slice a0 n0 c0, .slice b0 m0 d0, .slice a1 n1 c1, .slice b1 m1 d1, .slice a2 n2 c2, .slice b2 m2 d2] w fun e w' => SomeBool e ∧ w = w' := by
  by_cases h0 : 1048576 < n0
  · have h0' : (1048576 : Int) < (n0 : Int) := by omega
    go_enter Try.func16, Try.ntmps16
    go_wp2
    go_ret
    exact ⟨.mk _, rfl⟩
  have h0' : (n0 : Int) ≤ 1048576 := by omega
  go_enter Try.func16, Try.ntmps16
  go_wp2
  go_loop [13, 14] (fun t i => ∃ (k : Nat) (s : Int), k ≤ n0 ∧ i = .int .i64 k ∧ t = .int .i64 s ∧ 0 ≤ s ∧ s ≤ 1048576) (fun _ i => n0 - (intOf i).toNat)
  case atStart => exact ⟨0, _, Nat.zero_le _, rfl, rfl, by omega, by omega⟩
  case round =>
    obtain ⟨k0, s0, hk0, rfl, rfl, hs0, ht0⟩ := hrel
    by_cases hl0 : k0 < n0
    · go_wp2
      case roundEnd =>
        have hsum : s0 + 12 ≤ 1048576 := by assumption
        go_round
        case rel => exact ⟨k0 + 1, _, by omega, by go_num, rfl, by omega, by omega⟩
        case measure => simp [intOf]; omega
      all_goals
        go_ret
        exact ⟨.mk _, rfl⟩
    by_cases p0 : 1048576 < m0
    · have p0' : (1048576 : Int) < (m0 : Int) := by omega
      go_wp2
      go_ret
      exact ⟨.mk _, rfl⟩
    have p0' : (m0 : Int) ≤ 1048576 := by omega
    by_cases q0 : 1048576 < s0 + (m0 : Int)
    · go_wp2
      go_ret
      exact ⟨.mk _, rfl⟩
    have q0' : s0 + (m0 : Int) ≤ 1048576 := by omega
    by_cases u0 : 1048576 < n1
    · have u0' : (1048576 : Int) < (n1 : Int) := by omega
      go_wp2
      go_ret
      exact ⟨.mk _, rfl⟩
    have u0' : (n1 : Int) ≤ 1048576 := by omega
    by_cases v0 : 1048576 < s0 + (m0 : Int) + (n1 : Int)
    · go_wp2
      go_ret
      exact ⟨.mk _, rfl⟩
    have v0' : s0 + (m0 : Int) + (n1 : Int) ≤ 1048576 := by omega
    go_wp2
    go_loop [13, 15] (fun t i => ∃ (k : Nat) (s : Int), k ≤ n1 ∧ i = .int .i64 k ∧ t = .int .i64 s ∧ 0 ≤ s ∧ s ≤ 1048576) (fun _ i => n1 - (intOf i).toNat)
    case atStart => exact ⟨0, _, Nat.zero_le _, rfl, rfl, by omega, by omega⟩
    case round =>
      obtain ⟨k1, s1, hk1, rfl, rfl, hs1, ht1⟩ := hrel
      by_cases hl1 : k1 < n1
      · go_wp2
        case roundEnd =>
          have hsum : s1 + 12 ≤ 1048576 := by assumption
          go_round
          case rel => exact ⟨k1 + 1, _, by omega, by go_num, rfl, by omega, by omega⟩
          case measure => simp [intOf]; omega
        all_goals
          go_ret
          exact ⟨.mk _, rfl⟩
      by_cases p1 : 1048576 < m1
      · have p1' : (1048576 : Int) < (m1 : Int) := by omega
        go_wp2
        go_ret
        exact ⟨.mk _, rfl⟩
      have p1' : (m1 : Int) ≤ 1048576 := by omega
      by_cases q1 : 1048576 < s1 + (m1 : Int)
      · go_wp2
        go_ret
        exact ⟨.mk _, rfl⟩
      have q1' : s1 + (m1 : Int) ≤ 1048576 := by omega
      by_cases u1 : 1048576 < n2
      · have u1' : (1048576 : Int) < (n2 : Int) := by omega
        go_wp2
        go_ret
        exact ⟨.mk _, rfl⟩
      have u1' : (n2 : Int) ≤ 1048576 := by omega
      by_cases v1 : 1048576 < s1 + (m1 : Int) + (n2 : Int)
      · go_wp2
        go_ret
        exact ⟨.mk _, rfl⟩
      have v1' : s1 + (m1 : Int) + (n2 : Int) ≤ 1048576 := by omega
      go_wp2
      go_loop [13, 16] (fun t i => ∃ (k : Nat) (s : Int), k ≤ n2 ∧ i = .int .i64 k ∧ t = .int .i64 s ∧ 0 ≤ s ∧ s ≤ 1048576) (fun _ i => n2 - (intOf i).toNat)
      case atStart => exact ⟨0, _, Nat.zero_le _, rfl, rfl, by omega, by omega⟩
      case round =>
        obtain ⟨k2, s2, hk2, rfl, rfl, hs2, ht2⟩ := hrel
        by_cases hl2 : k2 < n2
        · go_wp2
          case roundEnd =>
            have hsum : s2 + 12 ≤ 1048576 := by assumption
            go_round
            case rel => exact ⟨k2 + 1, _, by omega, by go_num, rfl, by omega, by omega⟩
            case measure => simp [intOf]; omega
          all_goals
            go_ret
            exact ⟨.mk _, rfl⟩
        by_cases p2 : 1048576 < m2
        · have p2' : (1048576 : Int) < (m2 : Int) := by omega
          go_wp2
          go_ret
          exact ⟨.mk _, rfl⟩
        have p2' : (m2 : Int) ≤ 1048576 := by omega
        by_cases q2 : 1048576 < s2 + (m2 : Int)
        · go_wp2
          go_ret
          exact ⟨.mk _, rfl⟩
        have q2' : s2 + (m2 : Int) ≤ 1048576 := by omega
        go_wp2
        go_ret
        exact ⟨.mk _, rfl⟩

set_option maxRecDepth 100000 in
set_option maxHeartbeats 2000000 in
theorem c18 (a0 b0 : Option Addr) (n0 m0 c0 d0 : Nat) (a1 b1 : Option Addr) (n1 m1 c1 d1 : Nat) (a2 b2 : Option Addr) (n2 m2 c2 d2 : Nat) (w : World) :
    Calls Try.prog 18 #[.slice a0 n0 c0, .slice b0 m0 d0, .slice a1 n1 c1, .slice b1 m1 d1, .slice a2 n2 c2, .slice b2 m2 d2] w fun e w' => SomeBool e ∧ w = w' := by
  by_cases h0 : 1048576 < n0
  · have h0' : (1048576 : Int) < (n0 : Int) := by omega
    go_enter Try.func18, Try.ntmps18
    go_wp2
    go_ret
    exact ⟨.mk _, rfl⟩
  have h0' : (n0 : Int) ≤ 1048576 := by omega
  go_enter Try.func18, Try.ntmps18
  go_wp2
  go_loop [13, 14] (fun t i => ∃ (k : Nat) (s : Int), k ≤ n0 ∧ i = .int .i64 k ∧ t = .int .i64 s ∧ 0 ≤ s ∧ s ≤ 1048576) (fun _ i => n0 - (intOf i).toNat)
  case atStart => exact ⟨0, _, Nat.zero_le _, rfl, rfl, by omega, by omega⟩
  case round =>
    obtain ⟨k0, s0, hk0, rfl, rfl, hs0, ht0⟩ := hrel
    by_cases hl0 : k0 < n0
    · go_wp2
      case roundEnd =>
        have hsum : s0 + 12 ≤ 1048576 := by assumption
        go_round
        case rel => exact ⟨k0 + 1, _, by omega, by go_num, rfl, by omega, by omega⟩
        case measure => simp [intOf]; omega
      all_goals
        go_ret
        exact ⟨.mk _, rfl⟩
    by_cases p0 : 1048576 < m0
    · have p0' : (1048576 : Int) < (m0 : Int) := by omega
      go_wp2
      go_ret
      exact ⟨.mk _, rfl⟩
    have p0' : (m0 : Int) ≤ 1048576 := by omega
    by_cases q0 : 1048576 < s0 + (m0 : Int)
    · go_wp2
      go_ret
      exact ⟨.mk _, rfl⟩
    have q0' : s0 + (m0 : Int) ≤ 1048576 := by omega
    by_cases u0 : 1048576 < n1
    · have u0' : (1048576 : Int) < (n1 : Int) := by omega
      go_wp2
      go_ret
      exact ⟨.mk _, rfl⟩
    have u0' : (n1 : Int) ≤ 1048576 := by omega
    by_cases v0 : 1048576 < s0 + (m0 : Int) + (n1 : Int)
    · go_wp2
      go_ret
      exact ⟨.mk _, rfl⟩
    have v0' : s0 + (m0 : Int) + (n1 : Int) ≤ 1048576 := by omega
    go_wp2
    go_loop [13, 15] (fun t i => ∃ (k : Nat) (s : Int), k ≤ n1 ∧ i = .int .i64 k ∧ t = .int .i64 s ∧ 0 ≤ s ∧ s ≤ 1048576) (fun _ i => n1 - (intOf i).toNat)
    case atStart => exact ⟨0, _, Nat.zero_le _, rfl, rfl, by omega, by omega⟩
    case round =>
      obtain ⟨k1, s1, hk1, rfl, rfl, hs1, ht1⟩ := hrel
      by_cases hl1 : k1 < n1
      · go_wp2
        case roundEnd =>
          have hsum : s1 + 12 ≤ 1048576 := by assumption
          go_round
          case rel => exact ⟨k1 + 1, _, by omega, by go_num, rfl, by omega, by omega⟩
          case measure => simp [intOf]; omega
        all_goals
          go_ret
          exact ⟨.mk _, rfl⟩
      by_cases p1 : 1048576 < m1
      · have p1' : (1048576 : Int) < (m1 : Int) := by omega
        go_wp2
        go_ret
        exact ⟨.mk _, rfl⟩
      have p1' : (m1 : Int) ≤ 1048576 := by omega
      by_cases q1 : 1048576 < s1 + (m1 : Int)
      · go_wp2
        go_ret
        exact ⟨.mk _, rfl⟩
      have q1' : s1 + (m1 : Int) ≤ 1048576 := by omega
      by_cases u1 : 1048576 < n2
      · have u1' : (1048576 : Int) < (n2 : Int) := by omega
        go_wp2
        go_ret
        exact ⟨.mk _, rfl⟩
      have u1' : (n2 : Int) ≤ 1048576 := by omega
      by_cases v1 : 1048576 < s1 + (m1 : Int) + (n2 : Int)
      · go_wp2
        go_ret
        exact ⟨.mk _, rfl⟩
      have v1' : s1 + (m1 : Int) + (n2 : Int) ≤ 1048576 := by omega
      go_wp2
      go_loop [13, 16] (fun t i => ∃ (k : Nat) (s : Int), k ≤ n2 ∧ i = .int .i64 k ∧ t = .int .i64 s ∧ 0 ≤ s ∧ s ≤ 1048576) (fun _ i => n2 - (intOf i).toNat)
      case atStart => exact ⟨0, _, Nat.zero_le _, rfl, rfl, by omega, by omega⟩
      case round =>
        obtain ⟨k2, s2, hk2, rfl, rfl, hs2, ht2⟩ := hrel
        by_cases hl2 : k2 < n2
        · go_wp2
          case roundEnd =>
            have hsum : s2 + 12 ≤ 1048576 := by assumption
            go_round
            case rel => exact ⟨k2 + 1, _, by omega, by go_num, rfl, by omega, by omega⟩
            case measure => simp [intOf]; omega
          all_goals
            go_ret
            exact ⟨.mk _, rfl⟩
        by_cases p2 : 1048576 < m2
        · have p2' : (1048576 : Int) < (m2 : Int) := by omega
          go_wp2
          go_ret
          exact ⟨.mk _, rfl⟩
        have p2' : (m2 : Int) ≤ 1048576 := by omega
        by_cases q2 : 1048576 < s2 + (m2 : Int)
        · go_wp2
          go_ret
          exact ⟨.mk _, rfl⟩
        have q2' : s2 + (m2 : Int) ≤ 1048576 := by omega
        go_wp2
        go_ret
        exact ⟨.mk _, rfl⟩

end Go.Proofs.Qxb6602613a.Ver
