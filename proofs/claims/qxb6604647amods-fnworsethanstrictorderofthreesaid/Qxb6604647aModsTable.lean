/- The plain law of FnWorseThanStrictOrderOfThree (seat b6604647aM): tables of three places; no Go in sight, but for the last part: what the call's own memory holds between the rounds. -/
import Derived.Test.Qxb6604647aModsRate
import Derived.Deep.RegionHeld3
import Derived.Deep.QuietTactic
import Derived.BigQuiet
namespace Go.Proofs.Qxb6604647aMods.Pl
open Go.ChangeShapes Go.WideShapes Go.ChangeAt Go.RowKit

/-- One of three, by its number. -/
def pick3 {α : Type} (x y z : α) (i : Nat) : α := match i with | 0 => x | 1 => y | _ => z
/-- 'rating i is worse than rating j'. -/
def V (x y z : Int) (i j : Nat) : Bool := decide (pick3 x y z j < pick3 x y z i)
/-- how many of the first n entries of the table are true. -/
def cntW (x y z : Int) : Nat → Nat
  | 0 => 0
  | n + 1 => cntW x y z n + (V x y z (n / 3) (n % 3)).toNat
/-- 'places i and j differ'. -/
def ne3 (x y z : Int) (i j : Nat) : Nat := if pick3 x y z i = pick3 x y z j then 0 else 1
/-- how many pairs differ, counted up to row k, column m. -/
def cD (x y z : Int) (k m : Nat) : Nat :=
  match k, m with
  | 0, 1 => 0
  | 0, 2 => ne3 x y z 0 1
  | 0, _ => ne3 x y z 0 1 + ne3 x y z 0 2
  | 1, 2 => ne3 x y z 0 1 + ne3 x y z 0 2
  | _, _ => ne3 x y z 0 1 + ne3 x y z 0 2 + ne3 x y z 1 2

theorem cntW_le (x y z : Int) : ∀ n, cntW x y z n ≤ n
  | 0 => Nat.le_refl _
  | n + 1 => by
    have := cntW_le x y z n
    have := Bool.toNat_le (V x y z (n / 3) (n % 3))
    show cntW x y z n + (V x y z (n / 3) (n % 3)).toNat ≤ n + 1
    omega
theorem cntW_yes (x y z : Int) (k m : Nat) (hm : m < 3) (h : V x y z k m = true) : cntW x y z (k * 3 + m + 1) = cntW x y z (k * 3 + m) + 1 := by
  have e1 : (k * 3 + m) / 3 = k := by omega
  have e2 : (k * 3 + m) % 3 = m := by omega
  show cntW x y z (k * 3 + m) + (V x y z ((k * 3 + m) / 3) ((k * 3 + m) % 3)).toNat = _
  rw [e1, e2, h]; rfl
theorem cntW_no (x y z : Int) (k m : Nat) (hm : m < 3) (h : V x y z k m = false) : cntW x y z (k * 3 + m + 1) = cntW x y z (k * 3 + m) := by
  have e1 : (k * 3 + m) / 3 = k := by omega
  have e2 : (k * 3 + m) % 3 = m := by omega
  show cntW x y z (k * 3 + m) + (V x y z ((k * 3 + m) / 3) ((k * 3 + m) % 3)).toNat = _
  rw [e1, e2, h]; rfl
theorem three (k : Nat) (h : k < 3) : k = 0 ∨ k = 1 ∨ k = 2 := by omega
theorem cD_le (x y z : Int) (k m : Nat) : cD x y z k m ≤ 3 := by
  have h1 : ne3 x y z 0 1 ≤ 1 := by unfold ne3; split <;> omega
  have h2 : ne3 x y z 0 2 ≤ 1 := by unfold ne3; split <;> omega
  have h3 : ne3 x y z 1 2 ≤ 1 := by unfold ne3; split <;> omega
  unfold cD; split <;> omega
theorem cD_row (x y z : Int) (k : Nat) (h : k < 3) : cD x y z k 3 = cD x y z (k + 1) (k + 1 + 1) := by
  rcases three k h with rfl | rfl | rfl <;> rfl
theorem cD_step (x y z : Int) (k m : Nat) (hk : k < m) (hm : m < 3) : cD x y z k (m + 1) = cD x y z k m + ne3 x y z k m := by
  rcases three k (by omega) with rfl | rfl | rfl <;> rcases three m hm with rfl | rfl | rfl <;> first | omega | (unfold cD; simp)
theorem cD_yes (x y z : Int) (k m : Nat) (hk : k < m) (hm : m < 3) (h : (pick3 x y z k == pick3 x y z m) = false) : cD x y z k (m + 1) = cD x y z k m + 1 := by
  rw [cD_step x y z k m hk hm, ne3, if_neg (by simpa using h)]
theorem cD_no (x y z : Int) (k m : Nat) (hk : k < m) (hm : m < 3) (h : (pick3 x y z k == pick3 x y z m) = true) : cD x y z k (m + 1) = cD x y z k m := by
  rw [cD_step x y z k m hk hm, ne3, if_pos (by simpa using h)]; rfl
theorem toNat_dec (p : Prop) [Decidable p] : (decide p).toNat = if p then 1 else 0 := by by_cases h : p <;> simp [h]
theorem pair (a b : Int) : (if a < b then 1 else 0 : Nat) + (if b < a then 1 else 0 : Nat) = if a = b then 0 else 1 := by
  split <;> split <;> split <;> omega
theorem counts (x y z : Int) : cntW x y z 9 = cD x y z 3 4 := by
  have h1 := pair x y
  have h2 := pair x z
  have h3 := pair y z
  simp only [cntW, V, cD, ne3, pick3, toNat_dec]
  simp only [Nat.reduceDiv, Int.lt_irrefl, if_false]
  omega
theorem V_trans (x y z : Int) (i j k : Nat) (h : V x y z i j = true) (h' : V x y z j k = true) : V x y z i k = true := by
  unfold V at *
  simp only [decide_eq_true_eq] at *
  omega

/-! ### The call's own memory -/
structure Inv (s0 s1 s2 : ByteArray) (x y z : Int) (n : Nat) (w wr : World) : Prop where
  grown : Grown w wr
  nm : ∀ i, i < 3 → wr.cell? ⟨w.heap.size, i * 2, none⟩ = some (.string (pick3 s0 s1 s2 i))
  pl : ∀ i, i < 3 → wr.cell? ⟨w.heap.size, i * 2 + 1, none⟩ = some (.int .i64 (pick3 x y z i))
  pls : ∀ i, i < 3 → wr.cell? ⟨w.heap.size + 1 + 1 + 1 + 1, i, none⟩ = some (.int .i64 (pick3 x y z i))
  done : ∀ i j, i < 3 → j < 3 → i * 3 + j < n → wr.cell? ⟨w.heap.size + 1 + 1 + 1 + 1 + 1, i * 3 + j, none⟩ = some (.bool (V x y z i j))
  open_ : ∀ i j, i < 3 → j < 3 → ¬ i * 3 + j < n → wr.cell? ⟨w.heap.size + 1 + 1 + 1 + 1 + 1, i * 3 + j, none⟩ = some (.bool false)

theorem frozen_new {w wr : World} (h : Grown w wr) (a : Addr) (ha : w.heap.size ≤ a.block) : wr.frozen? a = false := by
  rw [h.2.1]
  have e : w.heap[a.block]? = none := by simp; omega
  simp [World.frozen?, e]
section
variable {s0 s1 s2 : ByteArray} {x y z : Int} {n : Nat} {w wr : World}
theorem Inv.frozen (h : Inv s0 s1 s2 x y z n w wr) {k : Nat} : wr.frozen? ⟨w.heap.size + 1 + 1 + 1 + 1 + 1, k, none⟩ = false :=
  frozen_new h.grown _ (by simp; omega)
theorem Inv.size (h : Inv s0 s1 s2 x y z n w wr) : w.heap.size + 1 + 1 + 1 + 1 + 1 < wr.heap.size := by
  by_cases hn : 0 * 3 + 0 < n
  · exact World.block_lt_of_cell? _ _ (h.done 0 0 (by omega) (by omega) hn)
  · exact World.block_lt_of_cell? _ _ (h.open_ 0 0 (by omega) (by omega) hn)
theorem Inv.drew (h : Inv s0 s1 s2 x y z n w wr) : Inv s0 s1 s2 x y z n w wr.drew :=
  ⟨h.grown.drew, h.nm, h.pl, h.pls, h.done, h.open_⟩
theorem Inv.drewN (h : Inv s0 s1 s2 x y z n w wr) (q : Nat) : Inv s0 s1 s2 x y z n w (wr.drewN q) :=
  ⟨h.grown, h.nm, h.pl, h.pls, h.done, h.open_⟩
theorem Inv.start (c1 c2 c3 : Array Value) :
    Inv s0 s1 s2 x y z 0 w ((((((w.alloc (.cells #[.string s0, .int .i64 x, .string s1, .int .i64 y, .string s2, .int .i64 z] 35)).alloc (.cells c1 31)).alloc (.cells c2 31)).alloc (.cells c3 31)).alloc (.cells #[.int .i64 x, .int .i64 y, .int .i64 z] 36)).alloc (.cells #[.bool false, .bool false, .bool false, .bool false, .bool false, .bool false, .bool false, .bool false, .bool false] 38)) := by
  refine ⟨?_, ?_, ?_, ?_, ?_, ?_⟩
  · exact ((((((Grown.refl w).alloc _ _).alloc _ _).alloc _ _).alloc _ _).alloc _ _).alloc _ _
  · intro i hi
    rcases three i hi with rfl | rfl | rfl <;> simp [go_sem, pick3, World.cell?_alloc_past, World.cell?_alloc_at]
  · intro i hi
    rcases three i hi with rfl | rfl | rfl <;> simp [go_sem, pick3, World.cell?_alloc_past, World.cell?_alloc_at]
  · intro i hi
    rcases three i hi with rfl | rfl | rfl <;> simp [go_sem, pick3, World.cell?_alloc_past, World.cell?_alloc_at]
  · intro i j hi hj h
    omega
  · intro i j hi hj _
    rcases three i hi with rfl | rfl | rfl <;> rcases three j hj with rfl | rfl | rfl <;> simp [go_sem, World.cell?_alloc_at]
theorem cell4n {wr : World} {c1 c2 c3 c4 : Array Value} {b o N : Nat} {v : Value} (hz : N < wr.heap.size) (hb : b ≤ N) (h : wr.cell? ⟨b, o, none⟩ = some v) :
    ((((wr.alloc (.cells c1 31)).alloc (.cells c2 31)).alloc (.cells c3 31)).alloc (.cells c4 31)).cell? ⟨b, o, none⟩ = some v := by
  have hb' : b < wr.heap.size := by omega
  rw [World.cell?_alloc_past _ _ _ (by simp; omega), World.cell?_alloc_past _ _ _ (by simp; omega), World.cell?_alloc_past _ _ _ (by simp; omega), World.cell?_alloc_past _ _ _ hb']
  exact h
theorem cell4 {wr : World} {c1 c2 c3 c4 : Array Value} {b o N : Nat} {v : Value} (hz : N < wr.heap.size) (hb : b ≤ N) (h : wr.cell? ⟨b, o, none⟩ = some v) :
    ((((wr.alloc (.cells c1 31)).alloc (.cells c2 31)).alloc (.cells c3 31)).alloc (.cells c4 31)).drew.cell? ⟨b, o, none⟩ = some v := cell4n hz hb h
theorem frozen4n {wr : World} {c1 c2 c3 c4 : Array Value} {a : Addr} {v : Bool} (h : wr.frozen? a = v) :
    ((((wr.alloc (.cells c1 31)).alloc (.cells c2 31)).alloc (.cells c3 31)).alloc (.cells c4 31)).frozen? a = v := by
  rw [frozen?_alloc_cells, frozen?_alloc_cells, frozen?_alloc_cells, frozen?_alloc_cells]
  exact h
theorem cell4s {W : World} {b o n i : Nat} {v u : Value} (hb : b ≠ n) (h : W.drew.cell? ⟨b, o, none⟩ = some v) : (W.setCell ⟨n, i, none⟩ u).drew.cell? ⟨b, o, none⟩ = some v := by
  show (W.setCell ⟨n, i, none⟩ u).cell? ⟨b, o, none⟩ = some v
  rw [World.cell?_setCell_far _ _ _ _ (Ne.symm hb)]
  exact h
theorem cellSame {W : World} {b i : Nat} {v u : Value} (h : W.cell? ⟨b, i, none⟩ = some v) : (W.setCell ⟨b, i, none⟩ u).drew.cell? ⟨b, i, none⟩ = some u :=
  World.cell?_setCell_same _ _ _ h
theorem cellOff {W : World} {b i j : Nat} {v u : Value} (hij : i ≠ j) (h : W.cell? ⟨b, j, none⟩ = some v) : (W.setCell ⟨b, i, none⟩ u).drew.cell? ⟨b, j, none⟩ = some v := by
  show (W.setCell ⟨b, i, none⟩ u).cell? ⟨b, j, none⟩ = some v
  rw [World.cell?_setCell_other _ _ _ _ (fun e => hij (congrArg Addr.off e))]
  exact h
theorem Inv.step {k m : Nat} (h : Inv s0 s1 s2 x y z (k * 3 + m) w wr) (hk : k < 3) (hm : m < 3) (c1 c2 c3 c4 : Array Value) :
    Inv s0 s1 s2 x y z (k * 3 + m + 1) w (((((wr.alloc (.cells c1 31)).alloc (.cells c2 31)).alloc (.cells c3 31)).alloc (.cells c4 31)).setCell ⟨w.heap.size + 1 + 1 + 1 + 1 + 1, k * 3 + m, none⟩ (.bool (decide (pick3 x y z m < pick3 x y z k)))).drew := by
  have hz := h.size
  refine ⟨?_, ?_, ?_, ?_, ?_, ?_⟩
  · exact ((((((h.grown).alloc _ _).alloc _ _).alloc _ _).alloc _ _).setCell (by simp; omega) _).drew
  · intro i hi
    exact cell4s (by omega) (cell4 hz (by omega) (h.nm i hi))
  · intro i hi
    exact cell4s (by omega) (cell4 hz (by omega) (h.pl i hi))
  · intro i hi
    exact cell4s (by omega) (cell4 hz (by omega) (h.pls i hi))
  · intro i j hi hj hlt
    by_cases e : i * 3 + j = k * 3 + m
    · have e1 : i = k := by omega
      have e2 : j = m := by omega
      subst e1 e2
      exact cellSame (cell4n hz (by omega) (h.open_ i j hi hj (by omega)))
    · exact cellOff (by omega) (cell4n hz (by omega) (h.done i j hi hj (by omega)))
  · intro i j hi hj hlt
    exact cellOff (by omega) (cell4n hz (by omega) (h.open_ i j hi hj (by omega)))
end
end Go.Proofs.Qxb6604647aMods.Pl
