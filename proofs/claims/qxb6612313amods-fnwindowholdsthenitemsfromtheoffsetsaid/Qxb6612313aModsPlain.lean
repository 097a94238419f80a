/- The plain functions of seat b6612313aM, and the contracts of zzClamp, window, ZZwindow, zzInWindow. -/
import Derived.Test.Qxb6612313aModsRows
import Derived.WalkKit
import Derived.ProofKit
namespace Go.Proofs.Qxb6612313aMods.Pl
open Go.ChangeShapes Go.WideShapes Go.ChangeAt Go.RowKit

/-! ### The plain functions -/
/-- 'offset' brought into [0, t]. -/
def cl (o t : Int) : Int := if o < 0 then 0 else if t < o then t else o
/-- where the window of n items from 'o' on ends. -/
def en (t o n : Int) : Int := if n < 0 then cl o t else if t - cl o t < n then t else cl o t + n
/-- 'item i is one of the n from s on'. -/
def inW (i s n : Int) : Bool := decide (0 < n ∧ s ≤ i ∧ i - s < n)

theorem cl_bd (o t : Int) (h : 0 ≤ t) : 0 ≤ cl o t ∧ cl o t ≤ t := by
  unfold cl; omega
theorem en_bd (t o n : Int) (h : 0 ≤ t) : cl o t ≤ en t o n ∧ en t o n ≤ t := by
  have := cl_bd o t h
  unfold en; omega
theorem cl_in (o t : Int) (h : 0 ≤ o) (h' : o ≤ t) : cl o t = o := by
  unfold cl; omega
theorem cl_en (t o n : Int) (h : 0 ≤ t) : cl (en t o n) t = en t o n := by
  have := cl_bd o t h
  have := en_bd t o n h
  exact cl_in _ _ (by omega) (by omega)
theorem en_en (t o n m : Int) (h : 0 ≤ t) (hn : 0 ≤ n) (hm : 0 ≤ m) : en t (en t o n) m = en t o (n + m) := by
  have hb := cl_bd o t h
  have hc := cl_en t o n h
  have he := en_bd t o n h
  rw [en, hc]
  unfold en at *
  omega

theorem en_room (t o n : Int) (hn : 0 ≤ n) (h : n ≤ t - cl o t) : en t o n = cl o t + n := by
  unfold en; omega
theorem en_full (t o n : Int) (hn : 0 ≤ n) (h : t - cl o t < n) : en t o n = t := by
  unfold en; omega

theorem ret2 {a b c d : Int} (h : a = c) (h' : b = d) : Ending.returned (.tuple #[.int .i64 a, .int .i64 b]) = .returned (.tuple #[.int .i64 c, .int .i64 d]) := by rw [h, h']
theorem ret1 {a c : Int} (h : a = c) : Ending.returned (.int .i64 a) = .returned (.int .i64 c) := by rw [h]

/-! ### The contracts -/
theorem clamp_any (o t : Int) (w : World) :
    Calls Trym.prog 6 #[.int .i64 o, .int .i64 t] w fun e w' => e = .returned (.int .i64 (cl o t)) ∧ w' = w := by
  go_enter Trym.func6, Trym.ntmps6
  go_wp2
  all_goals
    go_ret
    exact ⟨ret1 (by unfold cl; omega), rfl⟩

set_option maxHeartbeats 400000 in
theorem window_any (t o n : Int) (h : 0 ≤ t) (ht : t ≤ 9223372036854775807) (hn' : n ≤ 9223372036854775807) (w : World) :
    Calls Trym.prog 8 #[.int .i64 t, .int .i64 o, .int .i64 n] w fun e w' => e = .returned (.tuple #[.int .i64 (cl o t), .int .i64 (en t o n)]) ∧ w' = w := by
  go_enter Trym.func8, Trym.ntmps8
  go_wp2
  all_goals
    go_ret2
    exact ⟨ret2 (by unfold cl; omega) (by unfold en cl; omega), rfl⟩

theorem zzwindow_any (t o n : Int) (h : 0 ≤ t) (ht : t ≤ 9223372036854775807) (hn' : n ≤ 9223372036854775807) (w : World) :
    Calls Trym.prog 5 #[.int .i64 t, .int .i64 o, .int .i64 n] w fun e w' => e = .returned (.tuple #[.int .i64 (cl o t), .int .i64 (en t o n)]) ∧ w' = w := by
  go_enter Trym.func5, Trym.ntmps5
  go_wp2_with (go_at_call 8; refine (window_any _ _ _ ?_ ?_ ?_ _).mono ?_ <;> first | assumption | (rintro e w' ⟨rfl, rfl⟩))
  go_ret2
  exact ⟨rfl, rfl⟩

theorem inWindow_any (i s n : Int) (hi : 0 ≤ i) (hi' : i ≤ 9223372036854775807) (hs : 0 ≤ s) (hs' : s ≤ 9223372036854775807) (w : World) :
    Calls Trym.prog 7 #[.int .i64 i, .int .i64 s, .int .i64 n] w fun e w' => e = .returned (.bool (inW i s n)) ∧ w' = w := by
  go_enter Trym.func7, Trym.ntmps7
  go_wp2
  all_goals
    go_ret
    refine ⟨?_, rfl⟩
    unfold inW
    simp [*] <;> omega
end Go.Proofs.Qxb6612313aMods.Pl
