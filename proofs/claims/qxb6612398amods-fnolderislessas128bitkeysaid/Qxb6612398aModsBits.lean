/- The plain law of FnOlderIsLessAs128BitKey (seat b6612398aM): the borrow of a full subtractor, by the top bits; no Go in sight. -/
import Derived.Test.Qxb6612398aModsOlder
import Derived.Laws.BitsAllLaws
namespace Go.Proofs.Qxb6612398aMods.Pl
open Go.ChangeShapes Go.WideShapes Go.ChangeAt Go.RowKit

theorem max_u64 : IntKind.u64.max = 18446744073709551615 := by decide

/-- '((^x & y) | (^(x ^ y) & d)) >> 63', as the walk spells it. -/
def carry (x y d : Int) : Int :=
  bits .or .u64 (bits .and .u64 (bits .xor .u64 IntKind.u64.max x) y) (bits .and .u64 (bits .xor .u64 IntKind.u64.max (bits .xor .u64 x y)) d) / 9223372036854775808

theorem top_nat (x y d : Nat) : ((((18446744073709551615 ^^^ x) &&& y) ||| ((18446744073709551615 ^^^ (x ^^^ y)) &&& d)) / 2 ^ 63 : Nat) =
    (((1 ^^^ x / 2 ^ 63) &&& (y / 2 ^ 63)) ||| ((1 ^^^ (x / 2 ^ 63 ^^^ y / 2 ^ 63)) &&& (d / 2 ^ 63))) := by
  rw [Nat.or_div_two_pow, Nat.and_div_two_pow, Nat.and_div_two_pow, Nat.xor_div_two_pow, Nat.xor_div_two_pow, Nat.xor_div_two_pow]

theorem xor_lt (a b : Nat) (ha : a < 18446744073709551616) (hb : b < 18446744073709551616) : a ^^^ b < 18446744073709551616 := Nat.xor_lt_two_pow (n := 64) ha hb
theorem and_lt (a b : Nat) (hb : b < 18446744073709551616) : a &&& b < 18446744073709551616 := Nat.lt_of_le_of_lt Nat.and_le_right hb

theorem carry_nat (x y d : Nat) (hx : x < 18446744073709551616) (hy : y < 18446744073709551616) (hd : d < 18446744073709551616) :
    carry (x : Int) (y : Int) (d : Int) = (((((1 ^^^ x / 2 ^ 63) &&& (y / 2 ^ 63)) ||| ((1 ^^^ (x / 2 ^ 63 ^^^ y / 2 ^ 63)) &&& (d / 2 ^ 63))) : Nat) : Int) := by
  rw [← top_nat]
  unfold carry
  have e : IntKind.u64.max = ((18446744073709551615 : Nat) : Int) := max_u64
  have hm : 18446744073709551615 < 18446744073709551616 := by omega
  rw [e, u64_xor_nat _ _ hm hx, u64_xor_nat _ _ hx hy, u64_xor_nat _ _ hm (xor_lt _ _ hx hy), u64_and_nat _ _ (xor_lt _ _ hm hx) hy, u64_and_nat _ _ (xor_lt _ _ hm (xor_lt _ _ hx hy)) hd, u64_or_nat _ _ (and_lt _ _ hy) (and_lt _ _ hd)]
  rw [show (9223372036854775808 : Int) = ((2 ^ 63 : Nat) : Int) by decide]
  rfl

theorem bit3 (p q r : Nat) (hp : p < 2) (hq : q < 2) (hr : r < 2) : (((1 ^^^ p) &&& q) ||| ((1 ^^^ (p ^^^ q)) &&& r)) = if p < q then 1 else if p = q then r else 0 := by
  have h1 : p = 0 ∨ p = 1 := by omega
  have h2 : q = 0 ∨ q = 1 := by omega
  have h3 : r = 0 ∨ r = 1 := by omega
  rcases h1 with rfl | rfl <;> rcases h2 with rfl | rfl <;> rcases h3 with rfl | rfl <;> decide

/-- The borrow. -/
theorem carry_eq (x y c : Int) (lx : 0 ≤ x) (ux : x < 18446744073709551616) (ly : 0 ≤ y) (uy : y < 18446744073709551616) (lc : 0 ≤ c) (uc : c ≤ 1) :
    carry x y ((x - y - c) % 18446744073709551616) = if x < y + c then 1 else 0 := by
  obtain ⟨a, rfl⟩ := Int.eq_ofNat_of_zero_le lx
  obtain ⟨b, rfl⟩ := Int.eq_ofNat_of_zero_le ly
  obtain ⟨d, hd⟩ := Int.eq_ofNat_of_zero_le (show 0 ≤ ((a : Int) - b - c) % 18446744073709551616 by omega)
  have ud : d < 18446744073709551616 := by omega
  rw [hd, carry_nat a b d (by omega) (by omega) ud, bit3 _ _ _ (by omega) (by omega) (by omega)]
  split
  · split
    · rfl
    · omega
  · split
    · split <;> omega
    · split <;> omega

theorem wrap_id (n : Int) (l : 0 ≤ n) (u : n < 18446744073709551616) : IntKind.u64.wrap n = n := by rw [IntKind.wrap_u64]; omega
theorem or_zero (x y : Int) (lx : 0 ≤ x) (ux : x < 18446744073709551616) (ly : 0 ≤ y) (uy : y < 18446744073709551616) : (bits .or .u64 x y != 0) = decide (x ≠ 0 ∨ y ≠ 0) := by
  obtain ⟨a, rfl⟩ := Int.eq_ofNat_of_zero_le lx
  obtain ⟨b, rfl⟩ := Int.eq_ofNat_of_zero_le ly
  rw [u64_or_nat _ _ (by omega) (by omega)]
  by_cases ha : a = 0 <;> by_cases hb : b = 0 <;> simp [ha, hb, bne]

/-- 'lo', 'borrow', 'hi', 'out', as the walk spells them. -/
def lo (ag bg : Int) : Int := IntKind.u64.wrap (bg - ag)
def bor (ag bg : Int) : Int := carry bg ag (lo ag bg)
def hi (ai ag bi bg : Int) : Int := IntKind.u64.wrap (IntKind.u64.wrap (bi - ai) - bor ag bg)
def out (ai ag bi bg : Int) : Int := carry bi ai (hi ai ag bi bg)

theorem bor_eq (ag bg : Int) (l2 : 0 ≤ ag) (u2 : ag < 18446744073709551616) (l4 : 0 ≤ bg) (u4 : bg < 18446744073709551616) : bor ag bg = if bg < ag then 1 else 0 := by
  have h := carry_eq bg ag 0 l4 u4 l2 u2 (by omega) (by omega)
  unfold bor lo
  rw [IntKind.wrap_u64]
  simpa using h
theorem hi_eq (ai ag bi bg : Int) (l2 : 0 ≤ ag) (u2 : ag < 18446744073709551616) (l4 : 0 ≤ bg) (u4 : bg < 18446744073709551616) :
    hi ai ag bi bg = (bi - ai - (if bg < ag then 1 else 0)) % 18446744073709551616 := by
  unfold hi
  rw [bor_eq ag bg l2 u2 l4 u4, IntKind.wrap_u64, IntKind.wrap_u64]
  omega
theorem out_eq (ai ag bi bg : Int) (l1 : 0 ≤ ai) (u1 : ai < 18446744073709551616) (l2 : 0 ≤ ag) (u2 : ag < 18446744073709551616) (l3 : 0 ≤ bi) (u3 : bi < 18446744073709551616) (l4 : 0 ≤ bg) (u4 : bg < 18446744073709551616) :
    out ai ag bi bg = if bi < ai + (if bg < ag then 1 else 0) then 1 else 0 := by
  have h := carry_eq bi ai (if bg < ag then 1 else 0) l3 u3 l1 u1 (by split <;> omega) (by split <;> omega)
  unfold out
  rw [hi_eq ai ag bi bg l2 u2 l4 u4]
  exact h
/-- It borrows out: a does not come before b. -/
theorem says_no (ai ag bi bg : Int) (l1 : 0 ≤ ai) (u1 : ai < 18446744073709551616) (l2 : 0 ≤ ag) (u2 : ag < 18446744073709551616) (l3 : 0 ≤ bi) (u3 : bi < 18446744073709551616) (l4 : 0 ≤ bg) (u4 : bg < 18446744073709551616)
    (h : ¬ out ai ag bi bg = 0) : false = old ai ag bi bg := by
  rw [out_eq ai ag bi bg l1 u1 l2 u2 l3 u3 l4 u4] at h
  symm
  refine old_no ?_
  omega
/-- It does not borrow out: a comes before b where the difference is not zero. -/
theorem says_if (ai ag bi bg : Int) (l1 : 0 ≤ ai) (u1 : ai < 18446744073709551616) (l2 : 0 ≤ ag) (u2 : ag < 18446744073709551616) (l3 : 0 ≤ bi) (u3 : bi < 18446744073709551616) (l4 : 0 ≤ bg) (u4 : bg < 18446744073709551616)
    (h : out ai ag bi bg = 0) : (bits .or .u64 (hi ai ag bi bg) (lo ag bg) != 0) = old ai ag bi bg := by
  rw [out_eq ai ag bi bg l1 u1 l2 u2 l3 u3 l4 u4] at h
  have e : lo ag bg = (bg - ag) % 18446744073709551616 := by unfold lo; rw [IntKind.wrap_u64]
  rw [hi_eq ai ag bi bg l2 u2 l4 u4, e, or_zero _ _ (by omega) (by omega) (by omega) (by omega)]
  unfold old
  rw [decide_eq_decide]
  omega
end Go.Proofs.Qxb6612398aMods.Pl
