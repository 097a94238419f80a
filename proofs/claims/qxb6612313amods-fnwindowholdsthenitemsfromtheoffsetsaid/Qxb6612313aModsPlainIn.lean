/- The plain law on the window's members (seat b6612313aM): no Go in sight. -/
import Derived.Test.Qxb6612313aModsPlain
namespace Go.Proofs.Qxb6612313aMods.Pl
theorem in_first (t o n : Int) (h : 0 ≤ t) (hc : cl o t < en t o n) : inW (cl o t) (cl o t) n = true := by
  have := cl_bd o t h
  unfold inW
  unfold en at hc
  simp only [decide_eq_true_eq]
  omega
theorem in_last (t o n : Int) (h : 0 ≤ t) (hc : cl o t < en t o n) : inW (en t o n - 1) (cl o t) n = true := by
  have := cl_bd o t h
  unfold inW
  unfold en at *
  simp only [decide_eq_true_eq]
  omega
theorem not_in_end (t o n : Int) (h : 0 ≤ t) (hne : ¬ en t o n = t) : inW (en t o n) (cl o t) n = false := by
  have := cl_bd o t h
  unfold inW
  unfold en at *
  simp only [decide_eq_false_iff_not]
  omega
theorem not_in_none (t o n : Int) (h : 0 ≤ t) (hc : ¬ cl o t < en t o n) (hne : ¬ cl o t = t) : inW (cl o t) (cl o t) n = false := by
  have := cl_bd o t h
  unfold inW
  unfold en at *
  simp only [decide_eq_false_iff_not]
  omega
end Go.Proofs.Qxb6612313aMods.Pl
