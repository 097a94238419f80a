/- The contracts of rating.worseThan, ZZworseThan, ZZnewRating (seat b6604647aM). -/
import Derived.Test.Qxb6604647aModsRows
import Derived.WalkKit
import Derived.ProofKit
namespace Go.Proofs.Qxb6604647aMods.Pl
open Go.ChangeShapes Go.WideShapes Go.ChangeAt Go.RowKit

theorem method_any (s s' : ByteArray) (p p' : Int) (w : World) :
    Calls Trym.prog 16 #[.agg #[.string s, .int .i64 p], .agg #[.string s', .int .i64 p']] w fun e w' =>
      e = .returned (.bool (decide (p' < p))) ∧ ∃ c1 c2 : Array Value, w' = (w.alloc (.cells c1 31)).alloc (.cells c2 31) := by
  go_enter Trym.func16, Trym.ntmps16
  go_wp2
  go_ret
  exact ⟨rfl, _, _, rfl⟩

theorem worse_any (s s' : ByteArray) (p p' : Int) (w : World) :
    Calls Trym.prog 13 #[.agg #[.string s, .int .i64 p], .agg #[.string s', .int .i64 p']] w fun e w' =>
      e = .returned (.bool (decide (p' < p))) ∧ ∃ c1 c2 c3 c4 : Array Value, w' = (((w.alloc (.cells c1 31)).alloc (.cells c2 31)).alloc (.cells c3 31)).alloc (.cells c4 31) := by
  go_enter Trym.func13, Trym.ntmps13
  go_wp2_with (go_at_call 16; refine (method_any _ _ _ _ _).mono ?_; rintro e w' ⟨rfl, c1, c2, rfl⟩)
  go_ret
  exact ⟨rfl, _, _, _, _, rfl⟩

theorem new_any (s : ByteArray) (p : Int) (w : World) :
    Calls Trym.prog 12 #[.string s, .int .i64 p] w fun e w' =>
      e = .returned (.agg #[.string s, .int .i64 p]) ∧ ∃ c1 : Array Value, w' = w.alloc (.cells c1 31) := by
  go_enter Trym.func12, Trym.ntmps12
  go_wp2
  simp [bodyPost, results, Trym.results12, go_sem]
  exact ⟨_, rfl⟩
end Go.Proofs.Qxb6604647aMods.Pl
