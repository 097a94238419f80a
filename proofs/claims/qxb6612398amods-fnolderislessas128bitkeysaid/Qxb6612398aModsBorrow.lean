/- The contract of olderByBorrow (seat b6612398aM). -/
import Derived.Test.Qxb6612398aModsBits
namespace Go.Proofs.Qxb6612398aMods.Pl
open Go.ChangeShapes Go.WideShapes Go.ChangeAt Go.RowKit

set_option maxHeartbeats 800000 in
theorem borrow_any (ai ag bi bg : Int) (l1 : 0 ≤ ai) (u1 : ai < 18446744073709551616) (l2 : 0 ≤ ag) (u2 : ag < 18446744073709551616) (l3 : 0 ≤ bi) (u3 : bi < 18446744073709551616) (l4 : 0 ≤ bg) (u4 : bg < 18446744073709551616) (w : World) :
    Calls Trym.prog 8 #[.int .u64 ai, .int .u64 ag, .int .u64 bi, .int .u64 bg] w fun e w' => e = .returned (.bool (old ai ag bi bg)) ∧ w = w' := by
  have hy := says_if ai ag bi bg l1 u1 l2 u2 l3 u3 l4 u4
  have hn := says_no ai ag bi bg l1 u1 l2 u2 l3 u3 l4 u4
  have HY : Hid (out ai ag bi bg = 0 → (bits .or .u64 (hi ai ag bi bg) (lo ag bg) != 0) = old ai ag bi bg) := hy
  have HN : Hid (¬ out ai ag bi bg = 0 → false = old ai ag bi bg) := hn
  clear hy hn
  go_enter Trym.func8, Trym.ntmps8
  go_wp2
  · go_ret
    exact ⟨ret_bool (HY.out ‹_›), rfl⟩
  · go_ret
    exact ⟨ret_bool (HN.out ‹_›), rfl⟩
end Go.Proofs.Qxb6612398aMods.Pl
