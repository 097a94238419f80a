/- The walk of FnWorseThanStrictOrderOfThree (seat b6604647aM). -/
import Derived.Test.Qxb6604647aModsTable
namespace Go.Proofs.Qxb6604647aMods.Pl
open Go.ChangeShapes Go.WideShapes Go.ChangeAt Go.RowKit

theorem bytes3_any (a0 a2 a4 : ByteArray) (a1 a3 a5 : Int) (w : World) :
    Calls Trym.prog 14 #[.string a0, .int .i64 a1, .string a2, .int .i64 a3, .string a4, .int .i64 a5] w fun e w' => (∃ b : Bool, e = .returned (.bool b)) ∧ w = w' := by
  go_enter Trym.func14, Trym.ntmps14
  go_wp2
  all_goals
    go_ret
    exact ⟨⟨_, rfl⟩, rfl⟩

theorem vint {a b : Int} (h : a = b) : Value.int .i64 a = Value.int .i64 b := by rw [h]

set_option maxRecDepth 4000 in
set_option maxHeartbeats 4000000 in
theorem walk_main (a0 : ByteArray) (a1 : Int) (a2 : ByteArray) (a3 : Int) (a4 : ByteArray) (a5 : Int) (w0 : a0.size ≤ 9223372036854775807) (w2 : a2.size ≤ 9223372036854775807) (w4 : a4.size ≤ 9223372036854775807)
    (h0 : ¬ 262144 < (a0.size : Int)) (h2 : ¬ 262144 < (a2.size : Int)) (h4 : ¬ 262144 < (a4.size : Int)) (w : World) :
    Calls Trym.prog 5 #[.string a0, .int .i64 a1, .string a2, .int .i64 a3, .string a4, .int .i64 a5] w fun e w' => e = .returned (.bool true) ∧ Grown w w' := by
  go_enter Trym.func5, Trym.ntmps5
  go_wp2_with (first | (go_at_call 14; refine (bytes3_any _ _ _ _ _ _ _).mono ?_; rintro e w' ⟨⟨b, rfl⟩, rfl⟩; cases b) | (go_at_call 12; refine (Pl.new_any _ _ _).mono ?_; rintro e w' ⟨rfl, c1, rfl⟩))
  · go_ret
    exact ⟨rfl, Grown.refl _⟩
  go_loopw [16, 17, 18] (fun c i _ wr => ∃ k : Nat, k ≤ 3 ∧ i = .int .i64 k ∧ c = .int .i64 (cntW a1 a3 a5 (k * 3)) ∧ Inv a0 a2 a4 a1 a3 a5 (k * 3) w wr) (fun _ i _ _ => 3 - (intOf i).toNat)
  case atStart => exact ⟨0, Nat.zero_le _, rfl, rfl, Inv.start _ _ _⟩
  case round =>
    obtain ⟨k, hk, rfl, rfl, hI⟩ := hrel
    by_cases hlt : k < 3
    · have i1 : (0 : Int) ≤ (k : Int) := by omega
      have i2 : (k : Int) < 3 := by omega
      go_wp2
      go_loopw [16, 18] (fun c j wr => ∃ m : Nat, m ≤ 3 ∧ j = .int .i64 m ∧ c = .int .i64 (cntW a1 a3 a5 (k * 3 + m)) ∧ Inv a0 a2 a4 a1 a3 a5 (k * 3 + m) w wr) (fun _ j _ => 3 - (intOf j).toNat)
      case atStart => exact ⟨0, Nat.zero_le _, rfl, rfl, hI⟩
      case round =>
        clear hI
        obtain ⟨m, hm, rfl, rfl, hI⟩ := hrel
        by_cases hmt : m < 3
        · have e1 := hI.nm k hlt
          have e2 := hI.pl k hlt
          have e3 := hI.nm m hmt
          have e4 := hI.pl m hmt
          have e5 := hI.open_ k m hlt hmt (by omega)
          have e6 : wr.frozen? ⟨w.heap.size + 1 + 1 + 1 + 1 + 1, k * 3 + m, none⟩ = false := hI.frozen
          have hz : w.heap.size + 1 + 1 + 1 + 1 + 1 < wr.heap.size := hI.size
          have i3 : (0 : Int) ≤ (m : Int) := by omega
          have i4 : (m : Int) < 3 := by omega
          go_wp2
          go_region_held3 (fun w' => w'.cell? ⟨w.heap.size, k * 2, none⟩ = some (.string (pick3 a0 a2 a4 k)) ∧ w'.cell? ⟨w.heap.size, k * 2 + 1, none⟩ = some (.int .i64 (pick3 a1 a3 a5 k)) ∧ w'.cell? ⟨w.heap.size, m * 2, none⟩ = some (.string (pick3 a0 a2 a4 m)) ∧ w'.cell? ⟨w.heap.size, m * 2 + 1, none⟩ = some (.int .i64 (pick3 a1 a3 a5 m))) (first | (exact ⟨e1, e2, e3, e4⟩) | (exact ⟨cell4 hz (by omega) e1, cell4 hz (by omega) e2, cell4 hz (by omega) e3, cell4 hz (by omega) e4⟩) | (exact ⟨cell4s (by omega) (cell4 hz (by omega) e1), cell4s (by omega) (cell4 hz (by omega) e2), cell4s (by omega) (cell4 hz (by omega) e3), cell4s (by omega) (cell4 hz (by omega) e4)⟩))
            (first | (go_at_call 13; refine (Pl.worse_any _ _ _ _ _).mono ?_; rintro e w' ⟨rfl, c1, c2, c3, c4, rfl⟩; have f5 := cell4n (c1 := c1) (c2 := c2) (c3 := c3) (c4 := c4) hz (Nat.le_refl _) e5; have f6 := frozen4n (c1 := c1) (c2 := c2) (c3 := c3) (c4 := c4) e6))
          rename_i hH
          have hS := hI.step hlt hmt c1 c2 c3 c4
          clear hH f5 f6 hI e1 e2 e3 e4 e5 e6 hz
          generalize (World.drew _) = wx at hS ⊢
          have g1 := hS.done k m hlt hmt (by omega)
          have g2 := cntW_le a1 a3 a5 (k * 3 + m)
          cases hV : V a1 a3 a5 k m
          · rw [hV] at g1
            go_wp2
            go_roundw
            case rel => exact ⟨m + 1, by omega, by go_num, vint (by rw [← Nat.add_assoc, cntW_no _ _ _ _ _ hmt hV]), hS⟩
            case measure => simp [intOf]; omega
          · rw [hV] at g1
            go_wp2
            go_roundw
            case rel => exact ⟨m + 1, by omega, by go_num, vint (by rw [← Nat.add_assoc, cntW_yes _ _ _ _ _ hmt hV]; omega), hS⟩
            case measure => simp [intOf]; omega
        · obtain rfl : m = 3 := by omega
          have hS : Inv a0 a2 a4 a1 a3 a5 ((k + 1) * 3) w wr := by rw [show (k + 1) * 3 = k * 3 + 3 by omega]; exact hI
          have hC : Hid (cntW a1 a3 a5 (k * 3 + 3) = cntW a1 a3 a5 ((k + 1) * 3)) := by rw [show (k + 1) * 3 = k * 3 + 3 by omega]; exact rfl
          clear hI
          go_wp2
          go_roundw
          case rel => exact ⟨k + 1, by omega, by go_num, vint (by rw [hC.out]), hS⟩
          case measure => simp [intOf]; omega
    · obtain rfl : k = 3 := by omega
      have hE : cntW a1 a3 a5 9 = cD a1 a3 a5 3 4 := counts a1 a3 a5
      have HE : Hid (cntW a1 a3 a5 9 = cD a1 a3 a5 3 4) := hE
      clear hE
      have hJ : Inv a0 a2 a4 a1 a3 a5 9 w wr := hI
      clear hI
      go_wp2
      go_loopw [19, 20, 21] (fun c i _ wr => ∃ q : Nat, q ≤ 3 ∧ i = .int .i64 q ∧ c = .int .i64 (cD a1 a3 a5 q (q + 1)) ∧ Inv a0 a2 a4 a1 a3 a5 9 w wr) (fun _ i _ _ => 3 - (intOf i).toNat)
      case atStart => exact ⟨0, Nat.zero_le _, rfl, rfl, hJ⟩
      case round =>
        clear hJ
        obtain ⟨q, hq, rfl, rfl, hI⟩ := hrel
        by_cases hqt : q < 3
        · go_wp2
          go_loopw [19, 21] (fun c j wr => ∃ m : Nat, q + 1 ≤ m ∧ m ≤ 3 ∧ j = .int .i64 m ∧ c = .int .i64 (cD a1 a3 a5 q m) ∧ Inv a0 a2 a4 a1 a3 a5 9 w wr) (fun _ j _ => 3 - (intOf j).toNat)
          case atStart => exact ⟨q + 1, Nat.le_refl _, by omega, by go_num, rfl, hI⟩
          case round =>
            clear hI
            obtain ⟨m, hm1, hm2, rfl, rfl, hI⟩ := hrel
            by_cases hmt : m < 3
            · have e1 := hI.pls q hqt
              have e2 := hI.pls m hmt
              have i1 : (0 : Int) ≤ (q : Int) := by omega
              have i2 : (q : Int) < 3 := by omega
              have i3 : (0 : Int) ≤ (m : Int) := by omega
              have i4 : (m : Int) < 3 := by omega
              have g2 := cD_le a1 a3 a5 q m
              cases hE : (pick3 a1 a3 a5 q == pick3 a1 a3 a5 m)
              · go_wp2
                go_quiet (fail)
                go_wp2
                go_roundw
                case rel => exact ⟨m + 1, by omega, by omega, by go_num, vint (by rw [cD_yes _ _ _ _ _ (by omega) hmt hE]; omega), hI.drewN _⟩
                case measure => simp [intOf]; omega
              · go_wp2
                go_quiet (fail)
                go_wp2
                go_roundw
                case rel => exact ⟨m + 1, by omega, by omega, by go_num, vint (by rw [cD_no _ _ _ _ _ (by omega) hmt hE]), hI.drewN _⟩
                case measure => simp [intOf]; omega
            · obtain rfl : m = 3 := by omega
              have hC : Hid (cD a1 a3 a5 q 3 = cD a1 a3 a5 (q + 1) (q + 1 + 1)) := cD_row a1 a3 a5 q hqt
              go_wp2
              go_roundw
              case rel => exact ⟨q + 1, by omega, by go_num, vint (by rw [hC.out]), hI⟩
              case measure => simp [intOf]; omega
        · obtain rfl : q = 3 := by omega
          have hE : (((cntW a1 a3 a5 9 : Nat) : Int) == ((cD a1 a3 a5 3 4 : Nat) : Int)) = true := by rw [HE.out]; simp
          go_wp2
          go_loop [22] (fun i => ∃ k : Nat, k ≤ 3 ∧ i = .int .i64 k) (fun i => 3 - (intOf i).toNat)
          case atStart => exact ⟨0, Nat.zero_le _, rfl⟩
          case round =>
            obtain ⟨i, hi, rfl⟩ := hrel
            by_cases hi3 : i < 3
            · go_wp2
              go_loop [23] (fun j => ∃ k : Nat, k ≤ 3 ∧ j = .int .i64 k) (fun j => 3 - (intOf j).toNat)
              case atStart => exact ⟨0, Nat.zero_le _, rfl⟩
              case round =>
                obtain ⟨j, hj, rfl⟩ := hrel
                by_cases hj3 : j < 3
                · go_wp2
                  go_loop [24] (fun k => ∃ l : Nat, l ≤ 3 ∧ k = .int .i64 l) (fun k => 3 - (intOf k).toNat)
                  case atStart => exact ⟨0, Nat.zero_le _, rfl⟩
                  case round =>
                    obtain ⟨l, hl, rfl⟩ := hrel
                    by_cases hl3 : l < 3
                    · have g1 := hI.done i j hi3 hj3 (by omega)
                      have g2 := hI.done j l hj3 hl3 (by omega)
                      have g3 := hI.done i l hi3 hl3 (by omega)
                      have i1 : (0 : Int) ≤ (i : Int) := by omega
                      have i2 : (i : Int) < 3 := by omega
                      have i3 : (0 : Int) ≤ (j : Int) := by omega
                      have i4 : (j : Int) < 3 := by omega
                      have i5 : (0 : Int) ≤ (l : Int) := by omega
                      have i6 : (l : Int) < 3 := by omega
                      cases hV1 : V a1 a3 a5 i j
                      · rw [hV1] at g1
                        clear g2 g3
                        go_wp2
                        go_round
                        case rel => exact ⟨l + 1, by omega, by go_num⟩
                        case measure => simp [intOf]; omega
                      · rw [hV1] at g1
                        cases hV2 : V a1 a3 a5 j l
                        · rw [hV2] at g2
                          clear g3
                          go_wp2
                          go_round
                          case rel => exact ⟨l + 1, by omega, by go_num⟩
                          case measure => simp [intOf]; omega
                        · rw [hV2] at g2
                          rw [V_trans _ _ _ _ _ _ hV1 hV2] at g3
                          go_wp2
                          go_round
                          case rel => exact ⟨l + 1, by omega, by go_num⟩
                          case measure => simp [intOf]; omega
                    · go_wp2
                      go_round
                      case rel => exact ⟨j + 1, by omega, by go_num⟩
                      case measure => simp [intOf]; omega
                · go_wp2
                  go_round
                  case rel => exact ⟨i + 1, by omega, by go_num⟩
                  case measure => simp [intOf]; omega
            · go_wp2
              go_ret
              exact ⟨rfl, hI.grown⟩
end Go.Proofs.Qxb6604647aMods.Pl
