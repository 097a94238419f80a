/- The contracts of ZZnewHoldingFilter, balancesVerb, ZZbalancesVerb, and of the bound on the lengths (seat b6604647aM). -/
import Derived.Test.Qxb6604647aModsStrs
namespace Go.Proofs.Qxb6604647aMods.Pl
open Go.ChangeShapes Go.WideShapes Go.ChangeAt Go.RowKit

/-- What balancesVerb says, by the two lengths. -/
def verb (n m : Nat) : ByteArray := if 0 < n then ⟨#[97, 100, 100, 115]⟩ else if 0 < m then ⟨#[100, 101, 100, 117, 99, 116, 115]⟩ else ⟨#[]⟩
theorem verb_adds (n m : Nat) (h : 0 < n) : verb n m = ⟨#[97, 100, 100, 115]⟩ := by simp [verb, h]
theorem verb_deducts (m : Nat) (h : 0 < m) : verb 0 m = ⟨#[100, 101, 100, 117, 99, 116, 115]⟩ := by simp [verb, h]
theorem verb_none : verb 0 0 = ⟨#[]⟩ := by simp [verb]

/-- Block b is a filter with n balances and m deducted. -/
def Filt (w : World) (b n m : Nat) : Prop :=
  ∃ (a4 : Option Addr) (c4 : Nat) (a5 : Option Addr) (c5 : Nat), w.cell? ⟨b, 4, none⟩ = some (.slice a4 n c4) ∧ w.cell? ⟨b, 5, none⟩ = some (.slice a5 m c5)

theorem filter_any (v0 v1 v2 : Value) (q : Bool) (a4 : Option Addr) (n c4 : Nat) (a5 : Option Addr) (m c5 : Nat) (v6 v7 : Value) (l : Int)
    (a0 : Option Addr) (n0 c0 : Nat) (e0 : v0 = .slice a0 n0 c0) (a1 : Option Addr) (n1 c1 : Nat) (e1 : v1 = .slice a1 n1 c1) (a2 : Option Addr) (n2 c2 : Nat) (e2 : v2 = .slice a2 n2 c2)
    (a6 : Option Addr) (n6 c6 : Nat) (e6 : v6 = .slice a6 n6 c6) (a7 : Option Addr) (n7 c7 : Nat) (e7 : v7 = .slice a7 n7 c7) (w : World) :
    Calls Trym.prog 10 #[v0, v1, v2, .bool q, .slice a4 n c4, .slice a5 m c5, v6, v7, .int .i64 l] w fun e w' =>
      ∃ b : Nat, e = .returned (.pointer (some ⟨b, 0, none⟩)) ∧ Filt w' b n m ∧ Ext w w' := by
  subst e0 e1 e2 e6 e7
  go_enter Trym.func10, Trym.ntmps10
  go_wp2
  go_ret
  exact ⟨_, rfl, ⟨a4, c4, a5, c5, by simp [go_sem, World.cell?_alloc_at], by simp [go_sem, World.cell?_alloc_at]⟩, (Ext.refl _).alloc _⟩

theorem method_verb (b n m : Nat) (w : World) (h : Filt w b n m) (hn : n ≤ 9223372036854775807) (hm : m ≤ 9223372036854775807) :
    Calls Trym.prog 15 #[.pointer (some ⟨b, 0, none⟩)] w fun e w' => e = .returned (.string (verb n m)) ∧ w = w' := by
  obtain ⟨a4, c4, a5, c5, h4, h5⟩ := h
  by_cases p : 0 < (n : Int)
  · rw [verb_adds n m (by omega)]
    go_enter Trym.func15, Trym.ntmps15
    go_wp2
    go_ret
    exact ⟨rfl, rfl⟩
  · obtain rfl : n = 0 := by omega
    by_cases p' : 0 < (m : Int)
    · rw [verb_deducts m (by omega)]
      go_enter Trym.func15, Trym.ntmps15
      go_wp2
      go_ret
      exact ⟨rfl, rfl⟩
    · obtain rfl : m = 0 := by omega
      rw [verb_none]
      go_enter Trym.func15, Trym.ntmps15
      go_wp2
      go_ret
      exact ⟨rfl, rfl⟩

theorem verb_any (b n m : Nat) (w : World) (h : Filt w b n m) (hn : n ≤ 9223372036854775807) (hm : m ≤ 9223372036854775807) :
    Calls Trym.prog 9 #[.pointer (some ⟨b, 0, none⟩)] w fun e w' => e = .returned (.string (verb n m)) ∧ w = w' := by
  go_enter Trym.func9, Trym.ntmps9
  go_wp2_with (go_at_call 15; refine (method_verb _ n m _ ?_ ?_ ?_).mono ?_ <;> first | assumption | (rintro e w' ⟨rfl, rfl⟩))
  go_ret
  exact ⟨rfl, rfl⟩
end Go.Proofs.Qxb6604647aMods.Pl
