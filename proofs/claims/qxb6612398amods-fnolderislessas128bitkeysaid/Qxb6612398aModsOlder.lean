/- The contracts of older and ZZolder, and of the bounds on the lengths (seat b6612398aM). -/
import Derived.Test.Qxb6612398aModsRows
import Derived.WalkKit
import Derived.ProofKit
namespace Go.Proofs.Qxb6612398aMods.Pl
open Go.ChangeShapes Go.WideShapes Go.ChangeAt Go.RowKit

/-- The key (i, g) comes before the key (i', g'). -/
def old (i g i' g' : Int) : Bool := decide (i < i' ∨ (i = i' ∧ g < g'))
theorem old_yes {i g i' g' : Int} (h : i < i' ∨ (i = i' ∧ g < g')) : old i g i' g' = true := decide_eq_true h
theorem old_no {i g i' g' : Int} (h : ¬ (i < i' ∨ (i = i' ∧ g < g'))) : old i g i' g' = false := decide_eq_false h

theorem ret_bool {a b : Bool} (h : a = b) : Ending.returned (.bool a) = .returned (.bool b) := by rw [h]

theorem older_any (i g n : Int) (s : ByteArray) (p : Bool) (i' g' n' : Int) (s' : ByteArray) (p' : Bool) (w : World) :
    Calls Trym.prog 23 #[.agg #[.int .u64 i, .int .u64 g, .int .i64 n, .string s, .bool p], .agg #[.int .u64 i', .int .u64 g', .int .i64 n', .string s', .bool p']] w fun e w' =>
      e = .returned (.bool (old i g i' g')) ∧ ∃ c1 c2 : Array Value, w' = (w.alloc (.cells c1 25)).alloc (.cells c2 25) := by
  rcases Int.lt_trichotomy i i' with h | h | h
  · rw [old_yes (.inl h)]
    go_enter Trym.func23, Trym.ntmps23
    go_wp2
    go_ret
    exact ⟨rfl, _, _, rfl⟩
  · subst h
    by_cases hg : g < g'
    · rw [old_yes (.inr ⟨rfl, hg⟩)]
      go_enter Trym.func23, Trym.ntmps23
      go_wp2
      go_ret
      exact ⟨ret_bool (by simp), _, _, rfl⟩
    · rw [old_no (by omega)]
      go_enter Trym.func23, Trym.ntmps23
      go_wp2
      go_ret
      exact ⟨ret_bool (by simp), _, _, rfl⟩
  · rw [old_no (by omega)]
    go_enter Trym.func23, Trym.ntmps23
    go_wp2
    go_ret
    exact ⟨ret_bool (decide_eq_false (by omega)), _, _, rfl⟩

theorem zzolder_any (i g n : Int) (s : ByteArray) (p : Bool) (i' g' n' : Int) (s' : ByteArray) (p' : Bool) (w : World) :
    Calls Trym.prog 7 #[.agg #[.int .u64 i, .int .u64 g, .int .i64 n, .string s, .bool p], .agg #[.int .u64 i', .int .u64 g', .int .i64 n', .string s', .bool p']] w fun e w' =>
      e = .returned (.bool (old i g i' g')) ∧ ∃ c1 c2 c3 c4 : Array Value, w' = (((w.alloc (.cells c1 25)).alloc (.cells c2 25)).alloc (.cells c3 25)).alloc (.cells c4 25) := by
  go_enter Trym.func7, Trym.ntmps7
  go_wp2_with (go_at_call 23; refine (older_any _ _ _ _ _ _ _ _ _ _ _).mono ?_; rintro e w' ⟨rfl, c1, c2, rfl⟩)
  go_ret
  exact ⟨rfl, _, _, _, _, rfl⟩

/-- It has handed back a bool. -/
def SomeBool (e : Ending) : Prop := ∃ b : Bool, e = .returned (.bool b)

theorem bytes6_any (a0 a1 a2 : Int) (a3 : ByteArray) (a4 : Bool) (a5 a6 a7 : Int) (a8 : ByteArray) (a9 : Bool) (w : World) :
    Calls Trym.prog 6 #[.int .u64 a0, .int .u64 a1, .int .i64 a2, .string a3, .bool a4, .int .u64 a5, .int .u64 a6, .int .i64 a7, .string a8, .bool a9] w fun e w' => SomeBool e ∧ w = w' := by
  go_enter Trym.func6, Trym.ntmps6
  go_wp2
  all_goals
    go_ret
    exact ⟨⟨_, rfl⟩, rfl⟩

theorem bytes9_any (a0 a1 a2 : Int) (a3 : ByteArray) (a4 : Bool) (a5 a6 a7 : Int) (a8 : ByteArray) (a9 : Bool) (w : World) :
    Calls Trym.prog 9 #[.int .u64 a0, .int .u64 a1, .int .i64 a2, .string a3, .bool a4, .int .u64 a5, .int .u64 a6, .int .i64 a7, .string a8, .bool a9] w fun e w' => SomeBool e ∧ w = w' := by
  go_enter Trym.func9, Trym.ntmps9
  go_wp2
  all_goals
    go_ret
    exact ⟨⟨_, rfl⟩, rfl⟩
end Go.Proofs.Qxb6612398aMods.Pl
