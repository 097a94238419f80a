/- Slices of strings in this seat's functions: what a walk is told of them; the contracts of strsBytes, cloneStrs, ZZnewHoldingFilter, balancesVerb, ZZbalancesVerb (seat b6604647aM). -/
import Derived.Test.Qxb6604647aModsRows
import Derived.WalkKit
import Derived.ProofKit
import Derived.Lib.SliceRun
import Derived.Deep.OwnRows
import Derived.Below
namespace Go.Proofs.Qxb6604647aMods.Pl
open Go.ChangeShapes Go.WideShapes Go.ChangeAt Go.RowKit

theorem info9 : (Trym.prog.info? 9).map (fun i => (i.zero, i.size, i.bytes)) = some (some (.string ByteArray.empty), 1, 16) := by kernel_rfl

/-! ### The words -/
/-- THE WORLD w' IS w WITH NEW BLOCKS: nothing that was there has turned. -/
def Ext (w w' : World) : Prop := Below w.heap.size w w'
/-- A slice of len strings: it is empty, or each of its elements is a string that lies in memory. -/
def Str (w : World) (a : Option Addr) (len : Nat) : Prop :=
  len = 0 ∨ ∃ b off, a = some ⟨b, off, none⟩ ∧ ∀ i, i < len → ∃ s : ByteArray, w.cell? ⟨b, off + i, none⟩ = some (.string s)
/-- Block b is a row of n strings. -/
def RowS (w : World) (b n : Nat) : Prop := ∃ f : Nat → ByteArray, w.rowIs b 9 n (fun i => .string (f i))

theorem Ext.refl (w : World) : Ext w w := Below.refl _ _
theorem Ext.trans {a b c : World} (h : Ext a b) (k : Ext b c) : Ext a c := Below.trans h (Below.mono k h.size)
theorem Ext.alloc {a b : World} (h : Ext a b) (o : Obj) : Ext a (b.alloc o) := Below.alloc h h.size o
theorem Ext.drew {a b : World} (h : Ext a b) : Ext a b.drew := Below.drew h
theorem Ext.setCell {a b : World} (h : Ext a b) {p : Addr} (hp : a.heap.size ≤ p.block) (u : Value) : Ext a (b.setCell p u) := Below.setCell h hp u
theorem Ext.cell {a b : World} (h : Ext a b) {p : Addr} {v : Value} (hc : a.cell? p = some v) : b.cell? p = some v :=
  (Below.cell h (World.block_lt_of_cell? _ _ hc)).trans hc
theorem Str.ext {w w' : World} {a : Option Addr} {len : Nat} (h : Str w a len) (e : Ext w w') : Str w' a len := by
  rcases h with h | ⟨b, off, rfl, h⟩
  · exact .inl h
  · refine .inr ⟨b, off, rfl, fun i hi => ?_⟩
    obtain ⟨s, hs⟩ := h i hi
    exact ⟨s, e.cell hs⟩
theorem Str.nil {w : World} {len : Nat} (h : Str w none len) : len = 0 := by
  rcases h with h | ⟨b, off, h, _⟩
  · exact h
  · cases h
theorem RowS.made (w : World) (n : Nat) : RowS (w.alloc (.cells (madeCells #[.string ByteArray.empty] n) 9)) w.heap.size n :=
  ⟨fun _ => ByteArray.empty, World.rowIs_made w _ n 9⟩
theorem RowS.set {w : World} {b n : Nat} (h : RowS w b n) (i : Nat) (s : ByteArray) : RowS (w.setCell ⟨b, i, none⟩ (.string s)) b n := by
  obtain ⟨f, hf⟩ := h
  refine ⟨fun j => if j = i then s else f j, (hf.set i (.string s)).congr fun j _ => ?_⟩
  by_cases e : j = i <;> simp [e]
theorem RowS.cell {w : World} {b n : Nat} (h : RowS w b n) {i : Nat} (hi : i < n) : ∃ s : ByteArray, w.cell? ⟨b, i, none⟩ = some (.string s) := by
  obtain ⟨f, hf⟩ := h
  exact ⟨f i, hf.cell hi⟩
theorem RowS.frozen {w : World} {b n : Nat} (h : RowS w b n) (i : Nat) : w.frozen? ⟨b, i, none⟩ = false := by
  obtain ⟨f, hf⟩ := h
  exact hf.frozen i
theorem RowS.str {w : World} {b n : Nat} (h : RowS w b n) : Str w (some ⟨b, 0, none⟩) n :=
  .inr ⟨b, 0, rfl, fun i hi => by simpa using h.cell hi⟩

/-! ### strsBytes: whatever it answers, it turns nothing -/
set_option maxHeartbeats 400000 in
theorem strsBytes_any (a : Option Addr) (len cap : Nat) (w : World) (hl : len ≤ 9223372036854775807) (hs : Str w a len) :
    Calls Trym.prog 7 #[.slice a len cap] w fun e w' => (∃ z : Int, e = .returned (.int .i64 z)) ∧ w = w' := by
  go_enter Trym.func7, Trym.ntmps7
  go_wp2
  go_loop [3, 4] (fun t i => ∃ k : Nat, k ≤ len ∧ i = .int .i64 k ∧ ∃ z : Int, t = .int .i64 z) (fun _ i => len - (intOf i).toNat)
  case atStart => exact ⟨0, Nat.zero_le _, rfl, _, rfl⟩
  case round =>
    obtain ⟨k, hk, rfl, z, rfl⟩ := hrel
    by_cases hlt : k < len
    · rcases hs with h0 | ⟨b, off, rfl, hc⟩
      · omega
      obtain ⟨s, hcell⟩ := hc k hlt
      clear hc
      by_cases hz : 1048576 < (s.size : Int)
      · go_wp2
        go_ret
        exact ⟨⟨_, rfl⟩, rfl⟩
      · go_wp2
        go_round
        case rel => exact ⟨k + 1, by omega, by go_num, _, rfl⟩
        case measure => simp [intOf]; omega
    · go_wp2
      go_ret
      exact ⟨⟨_, rfl⟩, rfl⟩

/-! ### cloneStrs -/
set_option maxHeartbeats 400000 in
theorem clone_any (a : Option Addr) (len cap : Nat) (w : World) (hl : len ≤ 65536) (hs : Str w a len) :
    Calls Trym.prog 8 #[.slice a len cap] w fun e w' => ∃ (a' : Option Addr) (cap' : Nat), e = .returned (.slice a' len cap') ∧ Str w' a' len ∧ Ext w w' := by
  have q22 : ∀ (w : World) (a : Option Addr) (n c n' c' : Nat), (binOp .eql 22 (.slice a n c) (.slice none n' c')).run Trym.prog w = .ok (.bool a.isNone) w := fun w a n c n' c' => Lib.run_eql_slice_nil w _ _ a n c n' c' Trym.underlying22
  have hmk := run_make_row' (P := Trym.prog) 22 9 (.string ByteArray.empty) 16 Trym.underlying22 info9 rfl .i64 .i64 len (by omega) (by omega)
  cases a with
  | none =>
    obtain rfl := hs.nil
    go_enter Trym.func8, Trym.ntmps8
    go_wp2
    go_ret
    exact ⟨_, _, rfl, .inl rfl, Ext.refl _⟩
  | some x =>
    go_enter Trym.func8, Trym.ntmps8
    go_wp2
    have hR := RowS.made w len
    have hE := (Ext.refl w).alloc (.cells (madeCells #[.string ByteArray.empty] len) 9)
    generalize (World.alloc w (.cells (madeCells #[.string ByteArray.empty] len) 9)) = w1 at hR hE ⊢
    go_loopw [4] (fun i wr => ∃ k : Nat, k ≤ len ∧ i = .int .i64 k ∧ RowS wr w.heap.size len ∧ Ext w wr) (fun i _ => len - (intOf i).toNat)
    case atStart => exact ⟨0, Nat.zero_le _, rfl, hR, hE⟩
    case round =>
      clear hR hE
      obtain ⟨k, hk, rfl, hR, hE⟩ := hrel
      by_cases hlt : k < len
      · rcases hs.ext hE with h0 | ⟨b, off, he, hc⟩
        · omega
        obtain rfl := Option.some.inj he
        obtain ⟨s, hcell⟩ := hc k hlt
        obtain ⟨s', hcell'⟩ := hR.cell hlt
        have hfr := hR.frozen k
        clear hc
        go_wp2
        go_roundw
        case rel => exact ⟨k + 1, by omega, by go_num, hR.set k s, hE.setCell (Nat.le_refl _) _⟩
        case measure => simp [intOf]; omega
      · go_wp2
        go_ret
        exact ⟨_, _, rfl, hR.str, hE⟩
end Go.Proofs.Qxb6604647aMods.Pl
