/- The walk of FnBalancesVerbScript (seat b6604647aM). -/
import Derived.Test.Qxb6604647aModsVerb
import Derived.Test.Qxb6604647aModsBound
namespace Go.Proofs.Qxb6604647aMods.Pl
open Go.ChangeShapes Go.WideShapes Go.ChangeAt Go.RowKit

theorem says_adds (b n m : Nat) (w : World) (h : Filt w b n m) (h0 : 0 < n) (hn : n ≤ 9223372036854775807) (hm : m ≤ 9223372036854775807) :
    Calls Trym.prog 9 #[.pointer (some ⟨b, 0, none⟩)] w fun e w' => e = .returned (.string ⟨#[97, 100, 100, 115]⟩) ∧ w = w' := by
  have := verb_any b n m w h hn hm
  rwa [verb_adds n m h0] at this
theorem says_deducts (b m : Nat) (w : World) (h : Filt w b 0 m) (h0 : 0 < m) (hm : m ≤ 9223372036854775807) :
    Calls Trym.prog 9 #[.pointer (some ⟨b, 0, none⟩)] w fun e w' => e = .returned (.string ⟨#[100, 101, 100, 117, 99, 116, 115]⟩) ∧ w = w' := by
  have := verb_any b 0 m w h (by omega) hm
  rwa [verb_deducts m h0] at this
theorem made1 (z : Value) : madeCells #[z] 1 = #[z] := by
  simp [madeCells]
  exact ⟨0, by decide, by simp⟩
theorem says_none (b : Nat) (w : World) (h : Filt w b 0 0) :
    Calls Trym.prog 9 #[.pointer (some ⟨b, 0, none⟩)] w fun e w' => e = .returned (.string ⟨#[]⟩) ∧ w = w' := by
  have := verb_any b 0 0 w h (by omega) (by omega)
  rwa [verb_none] at this

set_option maxRecDepth 8000 in
set_option maxHeartbeats 8000000 in
theorem bal_tt (q : Bool) (l : Int) (a0 : Option Addr) (n0 c0 : Nat) (a1 : Option Addr) (n1 c1 : Nat) (a2 : Option Addr) (n2 c2 : Nat) (a4 : Option Addr) (n4 c4 : Nat) (a5 : Option Addr) (n5 c5 : Nat) (a6 : Option Addr) (n6 c6 : Nat) (a7 : Option Addr) (n7 c7 : Nat) (w : World)
    (h0 : ¬ 65536 < (n0 : Int)) (h1 : ¬ 65536 < (n1 : Int)) (h2 : ¬ 65536 < (n2 : Int)) (h4 : ¬ 65536 < (n4 : Int)) (h5 : ¬ 65536 < (n5 : Int)) (h6 : ¬ 65536 < (n6 : Int)) (h7 : ¬ 65536 < (n7 : Int)) (s0 : Str w a0 n0) (s1 : Str w a1 n1) (s2 : Str w a2 n2) (s4 : Str w a4 n4) (s5 : Str w a5 n5) (s6 : Str w a6 n6) (s7 : Str w a7 n7) (p4 : 0 < (n4 : Int)) (p5 : 0 < (n5 : Int)) :
    Calls Trym.prog 3 #[.slice a0 n0 c0, .slice a1 n1 c1, .slice a2 n2 c2, .bool q, .slice a4 n4 c4, .slice a5 n5 c5, .slice a6 n6 c6, .slice a7 n7 c7, .int .i64 l] w fun e w' => e = .returned (.bool true) ∧ Ext w w' := by
  have hzz := zzBytes_any q l a0 n0 c0 a1 n1 c1 a2 n2 c2 a4 n4 c4 a5 n5 c5 a6 n6 c6 a7 n7 c7 w (by omega) s0 (by omega) s1 (by omega) s2 (by omega) s4 (by omega) s5 (by omega) s6 (by omega) s7
  have hmk := run_make_row' (P := Trym.prog) 22 9 (.string ByteArray.empty) 16 Trym.underlying22 info9 rfl .i64 .i64 (n4 + 1) (by omega) (by omega)
  rw [show ((n4 + 1 : Nat) : Int) = (n4 : Int) + 1 by omega] at hmk
  go_enter Trym.func3, Trym.ntmps3
  go_wp2_with (first | (go_at_call 6; refine hzz.mono ?_; rintro e w' ⟨⟨b, rfl⟩, rfl⟩; cases b) | (go_at_call 7; refine (strsBytes_any _ _ _ _ ?_ ?_).mono ?_ <;> first | omega | assumption | (rintro e w' ⟨⟨z, rfl⟩, rfl⟩)))
  · go_ret
    exact ⟨rfl, Ext.refl _⟩
  · go_ret
    exact ⟨rfl, Ext.refl _⟩
  clear hzz
  refine (clone_any a0 n0 c0 _ (by omega) s0).mono ?_
  rintro e u0 ⟨b0, d0, rfl, t0, y0⟩
  have x0 : Ext w u0 := y0
  clear y0 t0 s0
  go_wp2_with fail
  refine (clone_any a1 n1 c1 _ (by omega) (s1.ext x0)).mono ?_
  rintro e u1 ⟨b1, d1, rfl, t1, y1⟩
  have x1 : Ext w u1 := x0.trans y1
  clear y1 x0 t1 s1
  go_wp2_with fail
  refine (clone_any a2 n2 c2 _ (by omega) (s2.ext x1)).mono ?_
  rintro e u2 ⟨b2, d2, rfl, t2, y2⟩
  have x2 : Ext w u2 := x1.trans y2
  clear y2 x1 t2 s2
  go_wp2_with fail
  refine (clone_any a4 n4 c4 _ (by omega) (s4.ext x2)).mono ?_
  rintro e u3 ⟨b4, d4, rfl, t4, y3⟩
  have x3 : Ext w u3 := x2.trans y3
  clear y3 x2 s4
  go_wp2_with fail
  refine (clone_any a5 n5 c5 _ (by omega) (s5.ext x3)).mono ?_
  rintro e u4 ⟨b5, d5, rfl, t5, y4⟩
  have x4 : Ext w u4 := x3.trans y4
  have r5 : Str u4 b4 n4 := t4.ext y4
  clear y4 x3 t5 s5 t4
  go_wp2_with fail
  refine (clone_any a6 n6 c6 _ (by omega) (s6.ext x4)).mono ?_
  rintro e u5 ⟨b6, d6, rfl, t6, y5⟩
  have x5 : Ext w u5 := x4.trans y5
  have r6 : Str u5 b4 n4 := r5.ext y5
  clear y5 x4 t6 s6 r5
  go_wp2_with fail
  refine (clone_any a7 n7 c7 _ (by omega) (s7.ext x5)).mono ?_
  rintro e u6 ⟨b7, d7, rfl, t7, y6⟩
  have x6 : Ext w u6 := x5.trans y6
  have r7 : Str u6 b4 n4 := r6.ext y6
  clear y6 x5 t7 s7 r6
  go_wp2_with fail
  refine (filter_any _ _ _ _ _ _ _ _ _ _ _ _ _ _ _ _ rfl _ _ _ rfl _ _ _ rfl _ _ _ rfl _ _ _ rfl _).mono ?_
  rintro e u10 ⟨f10, rfl, F10, y10⟩
  have x10 : Ext w u10 := x6.trans y10
  have r10 : Str u10 b4 n4 := r7.ext y10
  clear x6 y10 r7
  go_wp2_with fail
  refine (says_adds f10 _ _ _ F10 (by omega) (by omega) (by omega)).mono ?_
  rintro e w' ⟨rfl, rfl⟩
  clear F10
  go_wp2_with fail
  refine (filter_any _ _ _ _ _ _ _ _ _ _ _ _ _ _ _ _ rfl _ _ _ rfl _ _ _ rfl _ _ _ rfl _ _ _ rfl _).mono ?_
  rintro e u11 ⟨f11, rfl, F11, y11⟩
  have x11 : Ext w u11 := ((x10.alloc _).alloc _).trans y11
  have r11 : Str u11 b4 n4 := r10.ext ((((Ext.refl _).alloc _).alloc _).trans y11)
  clear x10 y11 r10
  go_wp2_with fail
  refine (says_adds f11 _ _ _ F11 (by omega) (by omega) (by omega)).mono ?_
  rintro e w' ⟨rfl, rfl⟩
  clear F11
  go_wp2_with fail
  have hR : RowS (u11.alloc (.cells (madeCells #[.string ByteArray.empty] (n4 + 1)) 9)) u11.heap.size (n4 + 1) := RowS.made u11 (n4 + 1)
  have hE : Ext u11 (u11.alloc (.cells (madeCells #[.string ByteArray.empty] (n4 + 1)) 9)) := (Ext.refl u11).alloc _
  clear hmk
  generalize (World.alloc u11 (.cells (madeCells #[.string ByteArray.empty] (n4 + 1)) 9)) = u12 at hR hE ⊢
  go_loopw [24] (fun i wr => ∃ k : Nat, k ≤ n4 ∧ i = .int .i64 k ∧ RowS wr u11.heap.size (n4 + 1) ∧ Ext u11 wr) (fun i _ => n4 - (intOf i).toNat)
  case atStart => exact ⟨0, Nat.zero_le _, rfl, hR, hE⟩
  case round =>
    clear hR hE
    obtain ⟨k, hk, rfl, hR, hE⟩ := hrel
    by_cases hlt : k < n4
    · rcases r11.ext hE with h00 | ⟨bb, off, rfl, hc⟩
      · omega
      obtain ⟨s, hcell⟩ := hc k hlt
      obtain ⟨s', hcell'⟩ := hR.cell (i := k) (by omega)
      have hfr := hR.frozen k
      clear hc r11
      go_wp2
      go_roundw
      case rel => exact ⟨k + 1, by omega, by go_num, hR.set k s, hE.setCell (Nat.le_refl _) _⟩
      case measure => simp [intOf]; omega
    obtain rfl : k = n4 := by omega
    obtain ⟨s', hcell'⟩ := hR.cell (i := k) (by omega)
    have hfr := hR.frozen k
    have x12 := x11.trans (hE.setCell (p := ⟨u11.heap.size, k, none⟩) (Nat.le_refl _) (.string ⟨#[101, 120, 116, 114, 97]⟩))
    clear r11 x11 hR hE
    go_wp2_with fail
    refine (filter_any _ _ _ _ _ _ _ _ _ _ _ _ _ _ _ _ rfl _ _ _ rfl _ _ _ rfl _ _ _ rfl _ _ _ rfl _).mono ?_
    rintro e u13 ⟨f13, rfl, F13, y13⟩
    have x13 : Ext w u13 := x12.trans y13
    clear y13 x12
    go_wp2_with fail
    refine (says_adds f13 _ _ _ F13 (by omega) (by omega) (by omega)).mono ?_
    rintro e w' ⟨rfl, rfl⟩
    clear F13
    go_wp2_with fail
    refine (filter_any _ _ _ _ _ _ _ _ _ _ _ _ _ _ _ _ rfl _ _ _ rfl _ _ _ rfl _ _ _ rfl _ _ _ rfl _).mono ?_
    rintro e u14 ⟨f14, rfl, F14, y14⟩
    have x14 : Ext w u14 := x13.trans y14
    clear y14 x13
    go_wp2_with fail
    refine (says_deducts f14 _ _ F14 (by omega) (by omega)).mono ?_
    rintro e w' ⟨rfl, rfl⟩
    clear F14
    go_wp2_with fail
    go_ret
    exact ⟨rfl, x14⟩

set_option maxRecDepth 8000 in
set_option maxHeartbeats 8000000 in
theorem bal_tf (q : Bool) (l : Int) (a0 : Option Addr) (n0 c0 : Nat) (a1 : Option Addr) (n1 c1 : Nat) (a2 : Option Addr) (n2 c2 : Nat) (a4 : Option Addr) (n4 c4 : Nat) (a5 : Option Addr) (c5 : Nat) (a6 : Option Addr) (n6 c6 : Nat) (a7 : Option Addr) (n7 c7 : Nat) (w : World)
    (h0 : ¬ 65536 < (n0 : Int)) (h1 : ¬ 65536 < (n1 : Int)) (h2 : ¬ 65536 < (n2 : Int)) (h4 : ¬ 65536 < (n4 : Int)) (h6 : ¬ 65536 < (n6 : Int)) (h7 : ¬ 65536 < (n7 : Int)) (s0 : Str w a0 n0) (s1 : Str w a1 n1) (s2 : Str w a2 n2) (s4 : Str w a4 n4) (s5 : Str w a5 0) (s6 : Str w a6 n6) (s7 : Str w a7 n7) (p4 : 0 < (n4 : Int)) :
    Calls Trym.prog 3 #[.slice a0 n0 c0, .slice a1 n1 c1, .slice a2 n2 c2, .bool q, .slice a4 n4 c4, .slice a5 0 c5, .slice a6 n6 c6, .slice a7 n7 c7, .int .i64 l] w fun e w' => e = .returned (.bool true) ∧ Ext w w' := by
  have hzz := zzBytes_any q l a0 n0 c0 a1 n1 c1 a2 n2 c2 a4 n4 c4 a5 0 c5 a6 n6 c6 a7 n7 c7 w (by omega) s0 (by omega) s1 (by omega) s2 (by omega) s4 (by omega) s5 (by omega) s6 (by omega) s7
  have hmk := run_make_row' (P := Trym.prog) 22 9 (.string ByteArray.empty) 16 Trym.underlying22 info9 rfl .i64 .i64 (n4 + 1) (by omega) (by omega)
  rw [show ((n4 + 1 : Nat) : Int) = (n4 : Int) + 1 by omega] at hmk
  go_enter Trym.func3, Trym.ntmps3
  go_wp2_with (first | (go_at_call 6; refine hzz.mono ?_; rintro e w' ⟨⟨b, rfl⟩, rfl⟩; cases b) | (go_at_call 7; refine (strsBytes_any _ _ _ _ ?_ ?_).mono ?_ <;> first | omega | assumption | (rintro e w' ⟨⟨z, rfl⟩, rfl⟩)))
  · go_ret
    exact ⟨rfl, Ext.refl _⟩
  · go_ret
    exact ⟨rfl, Ext.refl _⟩
  clear hzz
  refine (clone_any a0 n0 c0 _ (by omega) s0).mono ?_
  rintro e u0 ⟨b0, d0, rfl, t0, y0⟩
  have x0 : Ext w u0 := y0
  clear y0 t0 s0
  go_wp2_with fail
  refine (clone_any a1 n1 c1 _ (by omega) (s1.ext x0)).mono ?_
  rintro e u1 ⟨b1, d1, rfl, t1, y1⟩
  have x1 : Ext w u1 := x0.trans y1
  clear y1 x0 t1 s1
  go_wp2_with fail
  refine (clone_any a2 n2 c2 _ (by omega) (s2.ext x1)).mono ?_
  rintro e u2 ⟨b2, d2, rfl, t2, y2⟩
  have x2 : Ext w u2 := x1.trans y2
  clear y2 x1 t2 s2
  go_wp2_with fail
  refine (clone_any a4 n4 c4 _ (by omega) (s4.ext x2)).mono ?_
  rintro e u3 ⟨b4, d4, rfl, t4, y3⟩
  have x3 : Ext w u3 := x2.trans y3
  clear y3 x2 s4
  go_wp2_with fail
  refine (clone_any a5 0 c5 _ (by omega) (s5.ext x3)).mono ?_
  rintro e u4 ⟨b5, d5, rfl, t5, y4⟩
  have x4 : Ext w u4 := x3.trans y4
  have r5 : Str u4 b4 n4 := t4.ext y4
  clear y4 x3 t5 s5 t4
  go_wp2_with fail
  refine (clone_any a6 n6 c6 _ (by omega) (s6.ext x4)).mono ?_
  rintro e u5 ⟨b6, d6, rfl, t6, y5⟩
  have x5 : Ext w u5 := x4.trans y5
  have r6 : Str u5 b4 n4 := r5.ext y5
  clear y5 x4 t6 s6 r5
  go_wp2_with fail
  refine (clone_any a7 n7 c7 _ (by omega) (s7.ext x5)).mono ?_
  rintro e u6 ⟨b7, d7, rfl, t7, y6⟩
  have x6 : Ext w u6 := x5.trans y6
  have r7 : Str u6 b4 n4 := r6.ext y6
  clear y6 x5 t7 s7 r6
  go_wp2_with fail
  refine (filter_any _ _ _ _ _ _ _ _ _ _ _ _ _ _ _ _ rfl _ _ _ rfl _ _ _ rfl _ _ _ rfl _ _ _ rfl _).mono ?_
  rintro e u10 ⟨f10, rfl, F10, y10⟩
  have x10 : Ext w u10 := x6.trans y10
  have r10 : Str u10 b4 n4 := r7.ext y10
  clear x6 y10 r7
  go_wp2_with fail
  refine (says_adds f10 _ _ _ F10 (by omega) (by omega) (by omega)).mono ?_
  rintro e w' ⟨rfl, rfl⟩
  clear F10
  go_wp2_with fail
  refine (filter_any _ _ _ _ _ _ _ _ _ _ _ _ _ _ _ _ rfl _ _ _ rfl _ _ _ rfl _ _ _ rfl _ _ _ rfl _).mono ?_
  rintro e u11 ⟨f11, rfl, F11, y11⟩
  have x11 : Ext w u11 := (x10.alloc _).trans y11
  have r11 : Str u11 b4 n4 := r10.ext (((Ext.refl _).alloc _).trans y11)
  clear x10 y11 r10
  go_wp2_with fail
  refine (says_adds f11 _ _ _ F11 (by omega) (by omega) (by omega)).mono ?_
  rintro e w' ⟨rfl, rfl⟩
  clear F11
  go_wp2_with fail
  have hR : RowS (u11.alloc (.cells (madeCells #[.string ByteArray.empty] (n4 + 1)) 9)) u11.heap.size (n4 + 1) := RowS.made u11 (n4 + 1)
  have hE : Ext u11 (u11.alloc (.cells (madeCells #[.string ByteArray.empty] (n4 + 1)) 9)) := (Ext.refl u11).alloc _
  clear hmk
  generalize (World.alloc u11 (.cells (madeCells #[.string ByteArray.empty] (n4 + 1)) 9)) = u12 at hR hE ⊢
  go_loopw [24] (fun i wr => ∃ k : Nat, k ≤ n4 ∧ i = .int .i64 k ∧ RowS wr u11.heap.size (n4 + 1) ∧ Ext u11 wr) (fun i _ => n4 - (intOf i).toNat)
  case atStart => exact ⟨0, Nat.zero_le _, rfl, hR, hE⟩
  case round =>
    clear hR hE
    obtain ⟨k, hk, rfl, hR, hE⟩ := hrel
    by_cases hlt : k < n4
    · rcases r11.ext hE with h00 | ⟨bb, off, rfl, hc⟩
      · omega
      obtain ⟨s, hcell⟩ := hc k hlt
      obtain ⟨s', hcell'⟩ := hR.cell (i := k) (by omega)
      have hfr := hR.frozen k
      clear hc r11
      go_wp2
      go_roundw
      case rel => exact ⟨k + 1, by omega, by go_num, hR.set k s, hE.setCell (Nat.le_refl _) _⟩
      case measure => simp [intOf]; omega
    obtain rfl : k = n4 := by omega
    obtain ⟨s', hcell'⟩ := hR.cell (i := k) (by omega)
    have hfr := hR.frozen k
    have x12 := x11.trans (hE.setCell (p := ⟨u11.heap.size, k, none⟩) (Nat.le_refl _) (.string ⟨#[101, 120, 116, 114, 97]⟩))
    clear r11 x11 hR hE
    go_wp2_with fail
    refine (filter_any _ _ _ _ _ _ _ _ _ _ _ _ _ _ _ _ rfl _ _ _ rfl _ _ _ rfl _ _ _ rfl _ _ _ rfl _).mono ?_
    rintro e u13 ⟨f13, rfl, F13, y13⟩
    have x13 : Ext w u13 := x12.trans y13
    clear y13 x12
    go_wp2_with fail
    refine (says_adds f13 _ _ _ F13 (by omega) (by omega) (by omega)).mono ?_
    rintro e w' ⟨rfl, rfl⟩
    clear F13
    go_wp2_with fail
    refine (filter_any _ _ _ _ _ _ _ _ _ _ _ _ _ _ _ _ rfl _ _ _ rfl _ _ _ rfl _ _ _ rfl _ _ _ rfl _).mono ?_
    rintro e u14 ⟨f14, rfl, F14, y14⟩
    have x14 : Ext w u14 := x13.trans y14
    clear y14 x13
    go_wp2_with fail
    refine (says_none f14 _ F14).mono ?_
    rintro e w' ⟨rfl, rfl⟩
    clear F14
    go_wp2_with fail
    go_ret
    exact ⟨rfl, x14⟩

set_option maxRecDepth 8000 in
set_option maxHeartbeats 8000000 in
theorem bal_ft (q : Bool) (l : Int) (a0 : Option Addr) (n0 c0 : Nat) (a1 : Option Addr) (n1 c1 : Nat) (a2 : Option Addr) (n2 c2 : Nat) (a4 : Option Addr) (c4 : Nat) (a5 : Option Addr) (n5 c5 : Nat) (a6 : Option Addr) (n6 c6 : Nat) (a7 : Option Addr) (n7 c7 : Nat) (w : World)
    (h0 : ¬ 65536 < (n0 : Int)) (h1 : ¬ 65536 < (n1 : Int)) (h2 : ¬ 65536 < (n2 : Int)) (h5 : ¬ 65536 < (n5 : Int)) (h6 : ¬ 65536 < (n6 : Int)) (h7 : ¬ 65536 < (n7 : Int)) (s0 : Str w a0 n0) (s1 : Str w a1 n1) (s2 : Str w a2 n2) (s4 : Str w a4 0) (s5 : Str w a5 n5) (s6 : Str w a6 n6) (s7 : Str w a7 n7) (p5 : 0 < (n5 : Int)) :
    Calls Trym.prog 3 #[.slice a0 n0 c0, .slice a1 n1 c1, .slice a2 n2 c2, .bool q, .slice a4 0 c4, .slice a5 n5 c5, .slice a6 n6 c6, .slice a7 n7 c7, .int .i64 l] w fun e w' => e = .returned (.bool true) ∧ Ext w w' := by
  have hzz := zzBytes_any q l a0 n0 c0 a1 n1 c1 a2 n2 c2 a4 0 c4 a5 n5 c5 a6 n6 c6 a7 n7 c7 w (by omega) s0 (by omega) s1 (by omega) s2 (by omega) s4 (by omega) s5 (by omega) s6 (by omega) s7
  have hmk : ∀ w, (Instr.makeSlice 22 (.int .i64 1) (.int .i64 1)).run Trym.prog w = .ok (.slice (some ⟨w.heap.size, 0, none⟩) 1 1) (w.alloc (.cells #[.string ByteArray.empty] 9)) := fun w => by have h := run_make_row' (P := Trym.prog) 22 9 (.string ByteArray.empty) 16 Trym.underlying22 info9 rfl .i64 .i64 1 (by omega) (by omega) w; rw [made1] at h; exact h
  go_enter Trym.func3, Trym.ntmps3
  go_wp2_with (first | (go_at_call 6; refine hzz.mono ?_; rintro e w' ⟨⟨b, rfl⟩, rfl⟩; cases b) | (go_at_call 7; refine (strsBytes_any _ _ _ _ ?_ ?_).mono ?_ <;> first | omega | assumption | (rintro e w' ⟨⟨z, rfl⟩, rfl⟩)))
  · go_ret
    exact ⟨rfl, Ext.refl _⟩
  · go_ret
    exact ⟨rfl, Ext.refl _⟩
  clear hzz
  refine (clone_any a0 n0 c0 _ (by omega) s0).mono ?_
  rintro e u0 ⟨b0, d0, rfl, t0, y0⟩
  have x0 : Ext w u0 := y0
  clear y0 t0 s0
  go_wp2_with fail
  refine (clone_any a1 n1 c1 _ (by omega) (s1.ext x0)).mono ?_
  rintro e u1 ⟨b1, d1, rfl, t1, y1⟩
  have x1 : Ext w u1 := x0.trans y1
  clear y1 x0 t1 s1
  go_wp2_with fail
  refine (clone_any a2 n2 c2 _ (by omega) (s2.ext x1)).mono ?_
  rintro e u2 ⟨b2, d2, rfl, t2, y2⟩
  have x2 : Ext w u2 := x1.trans y2
  clear y2 x1 t2 s2
  go_wp2_with fail
  refine (clone_any a4 0 c4 _ (by omega) (s4.ext x2)).mono ?_
  rintro e u3 ⟨b4, d4, rfl, t4, y3⟩
  have x3 : Ext w u3 := x2.trans y3
  clear y3 x2 s4
  go_wp2_with fail
  refine (clone_any a5 n5 c5 _ (by omega) (s5.ext x3)).mono ?_
  rintro e u4 ⟨b5, d5, rfl, t5, y4⟩
  have x4 : Ext w u4 := x3.trans y4
  have r5 : Str u4 b4 0 := t4.ext y4
  clear y4 x3 t5 s5 t4
  go_wp2_with fail
  refine (clone_any a6 n6 c6 _ (by omega) (s6.ext x4)).mono ?_
  rintro e u5 ⟨b6, d6, rfl, t6, y5⟩
  have x5 : Ext w u5 := x4.trans y5
  have r6 : Str u5 b4 0 := r5.ext y5
  clear y5 x4 t6 s6 r5
  go_wp2_with fail
  refine (clone_any a7 n7 c7 _ (by omega) (s7.ext x5)).mono ?_
  rintro e u6 ⟨b7, d7, rfl, t7, y6⟩
  have x6 : Ext w u6 := x5.trans y6
  have r7 : Str u6 b4 0 := r6.ext y6
  clear y6 x5 t7 s7 r6
  go_wp2_with fail
  refine (filter_any _ _ _ _ _ _ _ _ _ _ _ _ _ _ _ _ rfl _ _ _ rfl _ _ _ rfl _ _ _ rfl _ _ _ rfl _).mono ?_
  rintro e u10 ⟨f10, rfl, F10, y10⟩
  have x10 : Ext w u10 := x6.trans y10
  have r10 : Str u10 b4 0 := r7.ext y10
  clear x6 y10 r7
  go_wp2_with fail
  refine (says_deducts f10 _ _ F10 (by omega) (by omega)).mono ?_
  rintro e w' ⟨rfl, rfl⟩
  clear F10
  go_wp2_with fail
  refine (filter_any _ _ _ _ _ _ _ _ _ _ _ _ _ _ _ _ rfl _ _ _ rfl _ _ _ rfl _ _ _ rfl _ _ _ rfl _).mono ?_
  rintro e u11 ⟨f11, rfl, F11, y11⟩
  have x11 : Ext w u11 := (x10.alloc _).trans y11
  have r11 : Str u11 b4 0 := r10.ext (((Ext.refl _).alloc _).trans y11)
  clear x10 y11 r10
  go_wp2_with fail
  refine (says_deducts f11 _ _ F11 (by omega) (by omega)).mono ?_
  rintro e w' ⟨rfl, rfl⟩
  clear F11
  go_wp2_with fail
  have hR : RowS (u11.alloc (.cells #[.string ByteArray.empty] 9)) u11.heap.size 1 := by have h := RowS.made u11 1; rw [made1] at h; exact h
  have hE : Ext u11 (u11.alloc (.cells #[.string ByteArray.empty] 9)) := (Ext.refl u11).alloc _
  clear hmk
  generalize (World.alloc u11 (.cells #[.string ByteArray.empty] 9)) = u12 at hR hE ⊢
  go_loopw [24] (fun i wr => ∃ k : Nat, k ≤ 0 ∧ i = .int .i64 k ∧ RowS wr u11.heap.size 1 ∧ Ext u11 wr) (fun i _ => 0 - (intOf i).toNat)
  case atStart => exact ⟨0, Nat.zero_le _, rfl, hR, hE⟩
  case round =>
    clear hR hE
    obtain ⟨k, hk, rfl, hR, hE⟩ := hrel
    obtain rfl : k = 0 := by omega
    obtain ⟨s', hcell'⟩ := hR.cell (i := 0) (by omega)
    have hfr := hR.frozen 0
    have x12 := x11.trans (hE.setCell (p := ⟨u11.heap.size, 0, none⟩) (Nat.le_refl _) (.string ⟨#[101, 120, 116, 114, 97]⟩))
    clear r11 x11 hR hE
    go_wp2_with fail
    refine (filter_any _ _ _ _ _ _ _ _ _ _ _ _ _ _ _ _ rfl _ _ _ rfl _ _ _ rfl _ _ _ rfl _ _ _ rfl _).mono ?_
    rintro e u13 ⟨f13, rfl, F13, y13⟩
    have x13 : Ext w u13 := x12.trans y13
    clear y13 x12
    go_wp2_with fail
    refine (says_adds f13 _ _ _ F13 (by omega) (by omega) (by omega)).mono ?_
    rintro e w' ⟨rfl, rfl⟩
    clear F13
    go_wp2_with fail
    refine (filter_any _ _ _ _ _ _ _ _ _ _ _ _ _ _ _ _ rfl _ _ _ rfl _ _ _ rfl _ _ _ rfl _ _ _ rfl _).mono ?_
    rintro e u14 ⟨f14, rfl, F14, y14⟩
    have x14 : Ext w u14 := x13.trans y14
    clear y14 x13
    go_wp2_with fail
    refine (says_deducts f14 _ _ F14 (by omega) (by omega)).mono ?_
    rintro e w' ⟨rfl, rfl⟩
    clear F14
    go_wp2_with fail
    go_ret
    exact ⟨rfl, x14⟩

set_option maxRecDepth 8000 in
set_option maxHeartbeats 8000000 in
theorem bal_ff (q : Bool) (l : Int) (a0 : Option Addr) (n0 c0 : Nat) (a1 : Option Addr) (n1 c1 : Nat) (a2 : Option Addr) (n2 c2 : Nat) (a4 : Option Addr) (c4 : Nat) (a5 : Option Addr) (c5 : Nat) (a6 : Option Addr) (n6 c6 : Nat) (a7 : Option Addr) (n7 c7 : Nat) (w : World)
    (h0 : ¬ 65536 < (n0 : Int)) (h1 : ¬ 65536 < (n1 : Int)) (h2 : ¬ 65536 < (n2 : Int)) (h6 : ¬ 65536 < (n6 : Int)) (h7 : ¬ 65536 < (n7 : Int)) (s0 : Str w a0 n0) (s1 : Str w a1 n1) (s2 : Str w a2 n2) (s4 : Str w a4 0) (s5 : Str w a5 0) (s6 : Str w a6 n6) (s7 : Str w a7 n7) :
    Calls Trym.prog 3 #[.slice a0 n0 c0, .slice a1 n1 c1, .slice a2 n2 c2, .bool q, .slice a4 0 c4, .slice a5 0 c5, .slice a6 n6 c6, .slice a7 n7 c7, .int .i64 l] w fun e w' => e = .returned (.bool true) ∧ Ext w w' := by
  have hzz := zzBytes_any q l a0 n0 c0 a1 n1 c1 a2 n2 c2 a4 0 c4 a5 0 c5 a6 n6 c6 a7 n7 c7 w (by omega) s0 (by omega) s1 (by omega) s2 (by omega) s4 (by omega) s5 (by omega) s6 (by omega) s7
  have hmk : ∀ w, (Instr.makeSlice 22 (.int .i64 1) (.int .i64 1)).run Trym.prog w = .ok (.slice (some ⟨w.heap.size, 0, none⟩) 1 1) (w.alloc (.cells #[.string ByteArray.empty] 9)) := fun w => by have h := run_make_row' (P := Trym.prog) 22 9 (.string ByteArray.empty) 16 Trym.underlying22 info9 rfl .i64 .i64 1 (by omega) (by omega) w; rw [made1] at h; exact h
  go_enter Trym.func3, Trym.ntmps3
  go_wp2_with (first | (go_at_call 6; refine hzz.mono ?_; rintro e w' ⟨⟨b, rfl⟩, rfl⟩; cases b) | (go_at_call 7; refine (strsBytes_any _ _ _ _ ?_ ?_).mono ?_ <;> first | omega | assumption | (rintro e w' ⟨⟨z, rfl⟩, rfl⟩)))
  · go_ret
    exact ⟨rfl, Ext.refl _⟩
  · go_ret
    exact ⟨rfl, Ext.refl _⟩
  clear hzz
  refine (clone_any a0 n0 c0 _ (by omega) s0).mono ?_
  rintro e u0 ⟨b0, d0, rfl, t0, y0⟩
  have x0 : Ext w u0 := y0
  clear y0 t0 s0
  go_wp2_with fail
  refine (clone_any a1 n1 c1 _ (by omega) (s1.ext x0)).mono ?_
  rintro e u1 ⟨b1, d1, rfl, t1, y1⟩
  have x1 : Ext w u1 := x0.trans y1
  clear y1 x0 t1 s1
  go_wp2_with fail
  refine (clone_any a2 n2 c2 _ (by omega) (s2.ext x1)).mono ?_
  rintro e u2 ⟨b2, d2, rfl, t2, y2⟩
  have x2 : Ext w u2 := x1.trans y2
  clear y2 x1 t2 s2
  go_wp2_with fail
  refine (clone_any a4 0 c4 _ (by omega) (s4.ext x2)).mono ?_
  rintro e u3 ⟨b4, d4, rfl, t4, y3⟩
  have x3 : Ext w u3 := x2.trans y3
  clear y3 x2 s4
  go_wp2_with fail
  refine (clone_any a5 0 c5 _ (by omega) (s5.ext x3)).mono ?_
  rintro e u4 ⟨b5, d5, rfl, t5, y4⟩
  have x4 : Ext w u4 := x3.trans y4
  have r5 : Str u4 b4 0 := t4.ext y4
  clear y4 x3 t5 s5 t4
  go_wp2_with fail
  refine (clone_any a6 n6 c6 _ (by omega) (s6.ext x4)).mono ?_
  rintro e u5 ⟨b6, d6, rfl, t6, y5⟩
  have x5 : Ext w u5 := x4.trans y5
  have r6 : Str u5 b4 0 := r5.ext y5
  clear y5 x4 t6 s6 r5
  go_wp2_with fail
  refine (clone_any a7 n7 c7 _ (by omega) (s7.ext x5)).mono ?_
  rintro e u6 ⟨b7, d7, rfl, t7, y6⟩
  have x6 : Ext w u6 := x5.trans y6
  have r7 : Str u6 b4 0 := r6.ext y6
  clear y6 x5 t7 s7 r6
  go_wp2_with fail
  refine (filter_any _ _ _ _ _ _ _ _ _ _ _ _ _ _ _ _ rfl _ _ _ rfl _ _ _ rfl _ _ _ rfl _ _ _ rfl _).mono ?_
  rintro e u10 ⟨f10, rfl, F10, y10⟩
  have x10 : Ext w u10 := x6.trans y10
  have r10 : Str u10 b4 0 := r7.ext y10
  clear x6 y10 r7
  go_wp2_with fail
  refine (says_none f10 _ F10).mono ?_
  rintro e w' ⟨rfl, rfl⟩
  clear F10
  go_wp2_with fail
  refine (filter_any _ _ _ _ _ _ _ _ _ _ _ _ _ _ _ _ rfl _ _ _ rfl _ _ _ rfl _ _ _ rfl _ _ _ rfl _).mono ?_
  rintro e u11 ⟨f11, rfl, F11, y11⟩
  have x11 : Ext w u11 := x10.trans y11
  have r11 : Str u11 b4 0 := r10.ext ((Ext.refl _).trans y11)
  clear x10 y11 r10
  go_wp2_with fail
  refine (says_none f11 _ F11).mono ?_
  rintro e w' ⟨rfl, rfl⟩
  clear F11
  go_wp2_with fail
  have hR : RowS (u11.alloc (.cells #[.string ByteArray.empty] 9)) u11.heap.size 1 := by have h := RowS.made u11 1; rw [made1] at h; exact h
  have hE : Ext u11 (u11.alloc (.cells #[.string ByteArray.empty] 9)) := (Ext.refl u11).alloc _
  clear hmk
  generalize (World.alloc u11 (.cells #[.string ByteArray.empty] 9)) = u12 at hR hE ⊢
  go_loopw [24] (fun i wr => ∃ k : Nat, k ≤ 0 ∧ i = .int .i64 k ∧ RowS wr u11.heap.size 1 ∧ Ext u11 wr) (fun i _ => 0 - (intOf i).toNat)
  case atStart => exact ⟨0, Nat.zero_le _, rfl, hR, hE⟩
  case round =>
    clear hR hE
    obtain ⟨k, hk, rfl, hR, hE⟩ := hrel
    obtain rfl : k = 0 := by omega
    obtain ⟨s', hcell'⟩ := hR.cell (i := 0) (by omega)
    have hfr := hR.frozen 0
    have x12 := x11.trans (hE.setCell (p := ⟨u11.heap.size, 0, none⟩) (Nat.le_refl _) (.string ⟨#[101, 120, 116, 114, 97]⟩))
    clear r11 x11 hR hE
    go_wp2_with fail
    refine (filter_any _ _ _ _ _ _ _ _ _ _ _ _ _ _ _ _ rfl _ _ _ rfl _ _ _ rfl _ _ _ rfl _ _ _ rfl _).mono ?_
    rintro e u13 ⟨f13, rfl, F13, y13⟩
    have x13 : Ext w u13 := x12.trans y13
    clear y13 x12
    go_wp2_with fail
    refine (says_adds f13 _ _ _ F13 (by omega) (by omega) (by omega)).mono ?_
    rintro e w' ⟨rfl, rfl⟩
    clear F13
    go_wp2_with fail
    refine (filter_any _ _ _ _ _ _ _ _ _ _ _ _ _ _ _ _ rfl _ _ _ rfl _ _ _ rfl _ _ _ rfl _ _ _ rfl _).mono ?_
    rintro e u14 ⟨f14, rfl, F14, y14⟩
    have x14 : Ext w u14 := x13.trans y14
    clear y14 x13
    go_wp2_with fail
    refine (says_none f14 _ F14).mono ?_
    rintro e w' ⟨rfl, rfl⟩
    clear F14
    go_wp2_with fail
    go_ret
    exact ⟨rfl, x14⟩
end Go.Proofs.Qxb6604647aMods.Pl
