/- The contract of the bound on the lengths ahead of FnBalancesVerbScript (seat b6604647aM): whatever it answers, it turns nothing. Seven loops, one behind the other. -/
import Derived.Test.Qxb6604647aModsStrs
namespace Go.Proofs.Qxb6604647aMods.Pl
open Go.ChangeShapes Go.WideShapes Go.ChangeAt Go.RowKit

/-- It has handed back a bool. -/
def SomeBool (e : Ending) : Prop := ∃ b : Bool, e = .returned (.bool b)

set_option maxRecDepth 4000 in
set_option maxHeartbeats 4000000 in
theorem zzBytes_any (q : Bool) (l : Int) (a0 : Option Addr) (n0 c0 : Nat) (a1 : Option Addr) (n1 c1 : Nat) (a2 : Option Addr) (n2 c2 : Nat) (a4 : Option Addr) (n4 c4 : Nat) (a5 : Option Addr) (n5 c5 : Nat) (a6 : Option Addr) (n6 c6 : Nat) (a7 : Option Addr) (n7 c7 : Nat) (w : World)
    (l0 : n0 ≤ 9223372036854775807) (s0 : Str w a0 n0) (l1 : n1 ≤ 9223372036854775807) (s1 : Str w a1 n1) (l2 : n2 ≤ 9223372036854775807) (s2 : Str w a2 n2) (l4 : n4 ≤ 9223372036854775807) (s4 : Str w a4 n4) (l5 : n5 ≤ 9223372036854775807) (s5 : Str w a5 n5) (l6 : n6 ≤ 9223372036854775807) (s6 : Str w a6 n6) (l7 : n7 ≤ 9223372036854775807) (s7 : Str w a7 n7) :
    Calls Trym.prog 6 #[.slice a0 n0 c0, .slice a1 n1 c1, .slice a2 n2 c2, .bool q, .slice a4 n4 c4, .slice a5 n5 c5, .slice a6 n6 c6, .slice a7 n7 c7, .int .i64 l] w fun e w' => SomeBool e ∧ w = w' := by
  by_cases h0 : 1048576 < (n0 : Int)
  · go_enter Trym.func6, Trym.ntmps6
    go_wp2
    go_ret
    exact ⟨⟨_, rfl⟩, rfl⟩
  go_enter Trym.func6, Trym.ntmps6
  go_wp2
  go_loop [19, 20] (fun t i => ∃ k : Nat, k ≤ n0 ∧ i = .int .i64 k ∧ ∃ z : Int, t = .int .i64 z) (fun _ i => n0 - (intOf i).toNat)
  case atStart => exact ⟨0, Nat.zero_le _, rfl, _, rfl⟩
  case round =>
    obtain ⟨k0, hk0, rfl, z1, rfl⟩ := hrel
    by_cases hlt0 : k0 < n0
    · rcases s0 with h0 | ⟨b, off, rfl, hc⟩
      · omega
      obtain ⟨s, hcell⟩ := hc k0 hlt0
      clear hc
      by_cases hs : 1048576 < (s.size : Int)
      · go_wp2
        go_ret
        exact ⟨⟨_, rfl⟩, rfl⟩
      by_cases hs2 : 1048576 < wrap64 (z1 + (s.size : Int))
      · go_wp2
        go_ret
        exact ⟨⟨_, rfl⟩, rfl⟩
      go_wp2
      go_round
      case rel => exact ⟨k0 + 1, by omega, by go_num, _, rfl⟩
      case measure => simp [intOf]; omega
    by_cases h1 : 1048576 < (n1 : Int)
    · go_wp2
      go_ret
      exact ⟨⟨_, rfl⟩, rfl⟩
    by_cases hz1 : 1048576 < wrap64 (z1 + (n1 : Int))
    · go_wp2
      go_ret
      exact ⟨⟨_, rfl⟩, rfl⟩
    go_wp2
    go_loop [19, 21] (fun t i => ∃ k : Nat, k ≤ n1 ∧ i = .int .i64 k ∧ ∃ z : Int, t = .int .i64 z) (fun _ i => n1 - (intOf i).toNat)
    case atStart => exact ⟨0, Nat.zero_le _, rfl, _, rfl⟩
    case round =>
      obtain ⟨k1, hk1, rfl, z2, rfl⟩ := hrel
      by_cases hlt1 : k1 < n1
      · rcases s1 with h0 | ⟨b, off, rfl, hc⟩
        · omega
        obtain ⟨s, hcell⟩ := hc k1 hlt1
        clear hc
        by_cases hs : 1048576 < (s.size : Int)
        · go_wp2
          go_ret
          exact ⟨⟨_, rfl⟩, rfl⟩
        by_cases hs2 : 1048576 < wrap64 (z2 + (s.size : Int))
        · go_wp2
          go_ret
          exact ⟨⟨_, rfl⟩, rfl⟩
        go_wp2
        go_round
        case rel => exact ⟨k1 + 1, by omega, by go_num, _, rfl⟩
        case measure => simp [intOf]; omega
      by_cases h2 : 1048576 < (n2 : Int)
      · go_wp2
        go_ret
        exact ⟨⟨_, rfl⟩, rfl⟩
      by_cases hz2 : 1048576 < wrap64 (z2 + (n2 : Int))
      · go_wp2
        go_ret
        exact ⟨⟨_, rfl⟩, rfl⟩
      go_wp2
      go_loop [19, 22] (fun t i => ∃ k : Nat, k ≤ n2 ∧ i = .int .i64 k ∧ ∃ z : Int, t = .int .i64 z) (fun _ i => n2 - (intOf i).toNat)
      case atStart => exact ⟨0, Nat.zero_le _, rfl, _, rfl⟩
      case round =>
        obtain ⟨k2, hk2, rfl, z3, rfl⟩ := hrel
        by_cases hlt2 : k2 < n2
        · rcases s2 with h0 | ⟨b, off, rfl, hc⟩
          · omega
          obtain ⟨s, hcell⟩ := hc k2 hlt2
          clear hc
          by_cases hs : 1048576 < (s.size : Int)
          · go_wp2
            go_ret
            exact ⟨⟨_, rfl⟩, rfl⟩
          by_cases hs2 : 1048576 < wrap64 (z3 + (s.size : Int))
          · go_wp2
            go_ret
            exact ⟨⟨_, rfl⟩, rfl⟩
          go_wp2
          go_round
          case rel => exact ⟨k2 + 1, by omega, by go_num, _, rfl⟩
          case measure => simp [intOf]; omega
        by_cases h4 : 1048576 < (n4 : Int)
        · go_wp2
          go_ret
          exact ⟨⟨_, rfl⟩, rfl⟩
        by_cases hz4 : 1048576 < wrap64 (z3 + (n4 : Int))
        · go_wp2
          go_ret
          exact ⟨⟨_, rfl⟩, rfl⟩
        go_wp2
        go_loop [19, 23] (fun t i => ∃ k : Nat, k ≤ n4 ∧ i = .int .i64 k ∧ ∃ z : Int, t = .int .i64 z) (fun _ i => n4 - (intOf i).toNat)
        case atStart => exact ⟨0, Nat.zero_le _, rfl, _, rfl⟩
        case round =>
          obtain ⟨k4, hk4, rfl, z4, rfl⟩ := hrel
          by_cases hlt4 : k4 < n4
          · rcases s4 with h0 | ⟨b, off, rfl, hc⟩
            · omega
            obtain ⟨s, hcell⟩ := hc k4 hlt4
            clear hc
            by_cases hs : 1048576 < (s.size : Int)
            · go_wp2
              go_ret
              exact ⟨⟨_, rfl⟩, rfl⟩
            by_cases hs2 : 1048576 < wrap64 (z4 + (s.size : Int))
            · go_wp2
              go_ret
              exact ⟨⟨_, rfl⟩, rfl⟩
            go_wp2
            go_round
            case rel => exact ⟨k4 + 1, by omega, by go_num, _, rfl⟩
            case measure => simp [intOf]; omega
          by_cases h5 : 1048576 < (n5 : Int)
          · go_wp2
            go_ret
            exact ⟨⟨_, rfl⟩, rfl⟩
          by_cases hz5 : 1048576 < wrap64 (z4 + (n5 : Int))
          · go_wp2
            go_ret
            exact ⟨⟨_, rfl⟩, rfl⟩
          go_wp2
          go_loop [19, 24] (fun t i => ∃ k : Nat, k ≤ n5 ∧ i = .int .i64 k ∧ ∃ z : Int, t = .int .i64 z) (fun _ i => n5 - (intOf i).toNat)
          case atStart => exact ⟨0, Nat.zero_le _, rfl, _, rfl⟩
          case round =>
            obtain ⟨k5, hk5, rfl, z5, rfl⟩ := hrel
            by_cases hlt5 : k5 < n5
            · rcases s5 with h0 | ⟨b, off, rfl, hc⟩
              · omega
              obtain ⟨s, hcell⟩ := hc k5 hlt5
              clear hc
              by_cases hs : 1048576 < (s.size : Int)
              · go_wp2
                go_ret
                exact ⟨⟨_, rfl⟩, rfl⟩
              by_cases hs2 : 1048576 < wrap64 (z5 + (s.size : Int))
              · go_wp2
                go_ret
                exact ⟨⟨_, rfl⟩, rfl⟩
              go_wp2
              go_round
              case rel => exact ⟨k5 + 1, by omega, by go_num, _, rfl⟩
              case measure => simp [intOf]; omega
            by_cases h6 : 1048576 < (n6 : Int)
            · go_wp2
              go_ret
              exact ⟨⟨_, rfl⟩, rfl⟩
            by_cases hz6 : 1048576 < wrap64 (z5 + (n6 : Int))
            · go_wp2
              go_ret
              exact ⟨⟨_, rfl⟩, rfl⟩
            go_wp2
            go_loop [19, 25] (fun t i => ∃ k : Nat, k ≤ n6 ∧ i = .int .i64 k ∧ ∃ z : Int, t = .int .i64 z) (fun _ i => n6 - (intOf i).toNat)
            case atStart => exact ⟨0, Nat.zero_le _, rfl, _, rfl⟩
            case round =>
              obtain ⟨k6, hk6, rfl, z6, rfl⟩ := hrel
              by_cases hlt6 : k6 < n6
              · rcases s6 with h0 | ⟨b, off, rfl, hc⟩
                · omega
                obtain ⟨s, hcell⟩ := hc k6 hlt6
                clear hc
                by_cases hs : 1048576 < (s.size : Int)
                · go_wp2
                  go_ret
                  exact ⟨⟨_, rfl⟩, rfl⟩
                by_cases hs2 : 1048576 < wrap64 (z6 + (s.size : Int))
                · go_wp2
                  go_ret
                  exact ⟨⟨_, rfl⟩, rfl⟩
                go_wp2
                go_round
                case rel => exact ⟨k6 + 1, by omega, by go_num, _, rfl⟩
                case measure => simp [intOf]; omega
              by_cases h7 : 1048576 < (n7 : Int)
              · go_wp2
                go_ret
                exact ⟨⟨_, rfl⟩, rfl⟩
              by_cases hz7 : 1048576 < wrap64 (z6 + (n7 : Int))
              · go_wp2
                go_ret
                exact ⟨⟨_, rfl⟩, rfl⟩
              go_wp2
              go_loop [19, 26] (fun t i => ∃ k : Nat, k ≤ n7 ∧ i = .int .i64 k ∧ ∃ z : Int, t = .int .i64 z) (fun _ i => n7 - (intOf i).toNat)
              case atStart => exact ⟨0, Nat.zero_le _, rfl, _, rfl⟩
              case round =>
                obtain ⟨k7, hk7, rfl, z7, rfl⟩ := hrel
                by_cases hlt7 : k7 < n7
                · rcases s7 with h0 | ⟨b, off, rfl, hc⟩
                  · omega
                  obtain ⟨s, hcell⟩ := hc k7 hlt7
                  clear hc
                  by_cases hs : 1048576 < (s.size : Int)
                  · go_wp2
                    go_ret
                    exact ⟨⟨_, rfl⟩, rfl⟩
                  by_cases hs2 : 1048576 < wrap64 (z7 + (s.size : Int))
                  · go_wp2
                    go_ret
                    exact ⟨⟨_, rfl⟩, rfl⟩
                  go_wp2
                  go_round
                  case rel => exact ⟨k7 + 1, by omega, by go_num, _, rfl⟩
                  case measure => simp [intOf]; omega
                go_wp2
                go_ret
                exact ⟨⟨_, rfl⟩, rfl⟩
end Go.Proofs.Qxb6604647aMods.Pl
