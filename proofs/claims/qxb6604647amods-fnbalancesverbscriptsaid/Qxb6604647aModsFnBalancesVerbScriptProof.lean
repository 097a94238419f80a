/-
  A proof of 'Rows.FnBalancesVerbScriptSaid'. The frame was written by program (the kit's proof-skeleton tool, fed as for slices of integers) and turned to slices of strings; the walk is this seat's own work.
-/
import Derived.Test.Qxb6604647aModsRows
import Derived.WalkKit
import Derived.ProofKit
import Derived.OpenShut
import Derived.ShutString
import Derived.ChangeOld
import Derived.Below
import Derived.SliceStrings
import Derived.Test.Qxb6604647aModsBal
namespace Go.Proofs.Qxb6604647aMods.fnBalancesVerbScript
open Go.ChangeShapes Go.WideShapes Go.ChangeAt Go.RowKit
open Go.ChangeMaps (open_string shut_string)
set_option linter.unusedVariables false

theorem own : ownKnob Trym.prog.godebug = none := by kernel_rfl
theorem laidOut : laidOutB Trym.prog = true := by kernel_rfl

/-! ### What a slice of strings among the arguments reads as -/
theorem strs_of {H : Type} {enc : TypeId × Value → H} {W : World} {a : Option Addr} {len cap : Nat} {d : DataW H} {p : List MemPlace} (h : DataW.Trod enc Trym.prog W 0 (fun _ => true) true 22 (.slice a len cap) d p) :
    Pl.Str W a len ∧ len ≤ 9223372036854775807 := by
  obtain ⟨fuel, hf⟩ := h
  rcases open_strings Trym.underlying22 Trym.underlying9 (by kernel_rfl) hf with ⟨hcs, _⟩ | ⟨x, l, c, ss, hcs, _, hl, hm, hz, _, hcell, _⟩
  · simp [Value.cells] at hcs
    obtain ⟨rfl, rfl, rfl⟩ := hcs
    exact ⟨.inl rfl, by omega⟩
  · simp [Value.cells] at hcs
    obtain ⟨rfl, rfl, rfl⟩ := hcs
    simp only [if_true] at hz
    unfold maxLen at hm
    refine ⟨?_, by omega⟩
    by_cases h0 : len = 0
    · exact .inl h0
    · obtain ⟨b, off, spot⟩ := x
      have hspot : spot = none := by simpa [Addr.add] using World.cell?_spot (hcell 0 (by omega))
      subst hspot
      exact .inr ⟨b, off, rfl, fun i hi => ⟨_, by rw [← add_plain]; exact hcell i (by omega)⟩⟩

/-! ### STEP 1: THE WALK -/
set_option maxRecDepth 8000 in
set_option maxHeartbeats 4000000 in
theorem walk (q : Bool) (l : Int) (a0 : Option Addr) (n0 c0 : Nat) (a1 : Option Addr) (n1 c1 : Nat) (a2 : Option Addr) (n2 c2 : Nat) (a4 : Option Addr) (n4 c4 : Nat) (a5 : Option Addr) (n5 c5 : Nat) (a6 : Option Addr) (n6 c6 : Nat) (a7 : Option Addr) (n7 c7 : Nat) (w : World)
    (l0 : n0 ≤ 9223372036854775807) (s0 : Pl.Str w a0 n0) (l1 : n1 ≤ 9223372036854775807) (s1 : Pl.Str w a1 n1) (l2 : n2 ≤ 9223372036854775807) (s2 : Pl.Str w a2 n2) (l4 : n4 ≤ 9223372036854775807) (s4 : Pl.Str w a4 n4) (l5 : n5 ≤ 9223372036854775807) (s5 : Pl.Str w a5 n5) (l6 : n6 ≤ 9223372036854775807) (s6 : Pl.Str w a6 n6) (l7 : n7 ≤ 9223372036854775807) (s7 : Pl.Str w a7 n7) :
    Calls Trym.prog 3 #[.slice a0 n0 c0, .slice a1 n1 c1, .slice a2 n2 c2, .bool q, .slice a4 n4 c4, .slice a5 n5 c5, .slice a6 n6 c6, .slice a7 n7 c7, .int .i64 l] w fun e w' => e = .returned (.bool true) ∧ Pl.Ext w w' := by
  have hzz := Pl.zzBytes_any q l a0 n0 c0 a1 n1 c1 a2 n2 c2 a4 n4 c4 a5 n5 c5 a6 n6 c6 a7 n7 c7 w l0 s0 l1 s1 l2 s2 l4 s4 l5 s5 l6 s6 l7 s7
  by_cases h0 : 65536 < (n0 : Int)
  · go_enter Trym.func3, Trym.ntmps3
    go_wp2_with (go_at_call 6; refine hzz.mono ?_; rintro e w' ⟨⟨b, rfl⟩, rfl⟩; cases b)
    all_goals
      go_ret
      exact ⟨rfl, Pl.Ext.refl _⟩
  by_cases h1 : 65536 < (n1 : Int)
  · go_enter Trym.func3, Trym.ntmps3
    go_wp2_with (go_at_call 6; refine hzz.mono ?_; rintro e w' ⟨⟨b, rfl⟩, rfl⟩; cases b)
    all_goals
      go_ret
      exact ⟨rfl, Pl.Ext.refl _⟩
  by_cases h2 : 65536 < (n2 : Int)
  · go_enter Trym.func3, Trym.ntmps3
    go_wp2_with (go_at_call 6; refine hzz.mono ?_; rintro e w' ⟨⟨b, rfl⟩, rfl⟩; cases b)
    all_goals
      go_ret
      exact ⟨rfl, Pl.Ext.refl _⟩
  by_cases h4 : 65536 < (n4 : Int)
  · go_enter Trym.func3, Trym.ntmps3
    go_wp2_with (go_at_call 6; refine hzz.mono ?_; rintro e w' ⟨⟨b, rfl⟩, rfl⟩; cases b)
    all_goals
      go_ret
      exact ⟨rfl, Pl.Ext.refl _⟩
  by_cases h5 : 65536 < (n5 : Int)
  · go_enter Trym.func3, Trym.ntmps3
    go_wp2_with (go_at_call 6; refine hzz.mono ?_; rintro e w' ⟨⟨b, rfl⟩, rfl⟩; cases b)
    all_goals
      go_ret
      exact ⟨rfl, Pl.Ext.refl _⟩
  by_cases h6 : 65536 < (n6 : Int)
  · go_enter Trym.func3, Trym.ntmps3
    go_wp2_with (go_at_call 6; refine hzz.mono ?_; rintro e w' ⟨⟨b, rfl⟩, rfl⟩; cases b)
    all_goals
      go_ret
      exact ⟨rfl, Pl.Ext.refl _⟩
  by_cases h7 : 65536 < (n7 : Int)
  · go_enter Trym.func3, Trym.ntmps3
    go_wp2_with (go_at_call 6; refine hzz.mono ?_; rintro e w' ⟨⟨b, rfl⟩, rfl⟩; cases b)
    all_goals
      go_ret
      exact ⟨rfl, Pl.Ext.refl _⟩
  clear hzz
  by_cases p4 : 0 < (n4 : Int)
  · by_cases p5 : 0 < (n5 : Int)
    · exact Pl.bal_tt q l a0 n0 c0 a1 n1 c1 a2 n2 c2 a4 n4 c4 a5 n5 c5 a6 n6 c6 a7 n7 c7 w h0 h1 h2 h4 h5 h6 h7 s0 s1 s2 s4 s5 s6 s7 p4 p5
    · obtain rfl : n5 = 0 := by omega
      exact Pl.bal_tf q l a0 n0 c0 a1 n1 c1 a2 n2 c2 a4 n4 c4 a5 c5 a6 n6 c6 a7 n7 c7 w h0 h1 h2 h4 h6 h7 s0 s1 s2 s4 s5 s6 s7 p4
  · obtain rfl : n4 = 0 := by omega
    by_cases p5 : 0 < (n5 : Int)
    · exact Pl.bal_ft q l a0 n0 c0 a1 n1 c1 a2 n2 c2 a4 c4 a5 n5 c5 a6 n6 c6 a7 n7 c7 w h0 h1 h2 h5 h6 h7 s0 s1 s2 s4 s5 s6 s7 p5
    · obtain rfl : n5 = 0 := by omega
      exact Pl.bal_ff q l a0 n0 c0 a1 n1 c1 a2 n2 c2 a4 c4 a5 c5 a6 n6 c6 a7 n7 c7 w h0 h1 h2 h6 h7 s0 s1 s2 s4 s5 s6 s7

/-! ### THE ROW's STEP: WRITTEN OUT: LEAVE IT -/
set_option maxRecDepth 100000 in
theorem lifted (os : Os) (started : os.Started) (H : Type) (enc : TypeId × Value → H) :
    ReturnsInHanded {} Trym.checked os 3 .any (Rows.fnBalancesVerbScriptSpec.pre6 enc Trym.prog Trym.f3 Rows.fnBalancesVerbScriptRow.domain false) (Rows.fnBalancesVerbScriptSpec.post enc Trym.prog Trym.f3 false true false false) := by
  refine returnsInHanded_of_change (C := Trym.checked) own started (by kernel_rfl) Trym.func3
    (ChangeSpec.witness6 (enc := enc) (C := Trym.checked) false ⟨#[], #[.slice none 0 0, .slice none 0 0, .slice none 0 0, .bool false, .slice none 0 0, .slice none 0 0, .slice none 0 0, .slice none 0 0, .int .i64 0], []⟩ 8 (by kernel_rfl) (by kernel_rfl) (by kernel_rfl) (by kernel_rfl)) ?_
  intro W base args ds gs before hval0 hW hcnd _
  have hval : ∀ (j : Nat) t v, Trym.f3.params[j]? = some t → args[j]? = some v → Value.okWide Trym.prog W .any base t v := hval0
  have hW' := hW
  obtain ⟨p, q, hA0, hV, rfl, hfz, hnd⟩ := hW
  have hA : DataW.TrodAll enc Trym.prog W 0 (fun _ => true) true Trym.f3.params.toList args.toList ds p := hA0
  rw [Trym.params3] at hA hval
  obtain ⟨v0, vs0, d0, ds0, p0, q0, hargs, rfl, rfl, h0, r0⟩ := trodAll_cons hA
  obtain ⟨v1, vs1, d1, ds1, p1, q1, rfl, rfl, rfl, h1, r1⟩ := trodAll_cons r0
  obtain ⟨v2, vs2, d2, ds2, p2, q2, rfl, rfl, rfl, h2, r2⟩ := trodAll_cons r1
  obtain ⟨v3, vs3, d3, ds3, p3, q3, rfl, rfl, rfl, h3, r3⟩ := trodAll_cons r2
  obtain ⟨v4, vs4, d4, ds4, p4, q4, rfl, rfl, rfl, h4, r4⟩ := trodAll_cons r3
  obtain ⟨v5, vs5, d5, ds5, p5, q5, rfl, rfl, rfl, h5, r5⟩ := trodAll_cons r4
  obtain ⟨v6, vs6, d6, ds6, p6, q6, rfl, rfl, rfl, h6, r6⟩ := trodAll_cons r5
  obtain ⟨v7, vs7, d7, ds7, p7, q7, rfl, rfl, rfl, h7, r7⟩ := trodAll_cons r6
  obtain ⟨v8, vs8, d8, ds8, p8, q8, rfl, rfl, rfl, h8, r8⟩ := trodAll_cons r7
  obtain ⟨rfl, rfl, rfl⟩ := trodAll_nil r8
  obtain rfl : args = #[v0, v1, v2, v3, v4, v5, v6, v7, v8] := by cases args; simp_all
  obtain ⟨rfl, rfl⟩ := trodVars_none hV
  obtain ⟨a0, len0, cap0, rfl⟩ := okWide_slice Trym.underlying22 (hval 0 22 v0 rfl rfl)
  have k0 := h0
  have lt0 : ∀ x ∈ p0, x.block < W.heap.size := by obtain ⟨m, hm⟩ := k0; exact DataW.trod_lt m _ _ _ hm
  obtain ⟨w0, m0⟩ := strs_of h0
  obtain ⟨a1, len1, cap1, rfl⟩ := okWide_slice Trym.underlying22 (hval 1 22 v1 rfl rfl)
  have k1 := h1
  have lt1 : ∀ x ∈ p1, x.block < W.heap.size := by obtain ⟨m, hm⟩ := k1; exact DataW.trod_lt m _ _ _ hm
  obtain ⟨w1, m1⟩ := strs_of h1
  obtain ⟨a2, len2, cap2, rfl⟩ := okWide_slice Trym.underlying22 (hval 2 22 v2 rfl rfl)
  have k2 := h2
  have lt2 : ∀ x ∈ p2, x.block < W.heap.size := by obtain ⟨m, hm⟩ := k2; exact DataW.trod_lt m _ _ _ hm
  obtain ⟨w2, m2⟩ := strs_of h2
  obtain ⟨a3, rfl, rfl, rfl⟩ := open_bool Trym.underlying4 (hval 3 4 v3 rfl rfl) h3
  obtain ⟨a4, len4, cap4, rfl⟩ := okWide_slice Trym.underlying22 (hval 4 22 v4 rfl rfl)
  have k4 := h4
  have lt4 : ∀ x ∈ p4, x.block < W.heap.size := by obtain ⟨m, hm⟩ := k4; exact DataW.trod_lt m _ _ _ hm
  obtain ⟨w4, m4⟩ := strs_of h4
  obtain ⟨a5, len5, cap5, rfl⟩ := okWide_slice Trym.underlying22 (hval 5 22 v5 rfl rfl)
  have k5 := h5
  have lt5 : ∀ x ∈ p5, x.block < W.heap.size := by obtain ⟨m, hm⟩ := k5; exact DataW.trod_lt m _ _ _ hm
  obtain ⟨w5, m5⟩ := strs_of h5
  obtain ⟨a6, len6, cap6, rfl⟩ := okWide_slice Trym.underlying22 (hval 6 22 v6 rfl rfl)
  have k6 := h6
  have lt6 : ∀ x ∈ p6, x.block < W.heap.size := by obtain ⟨m, hm⟩ := k6; exact DataW.trod_lt m _ _ _ hm
  obtain ⟨w6, m6⟩ := strs_of h6
  obtain ⟨a7, len7, cap7, rfl⟩ := okWide_slice Trym.underlying22 (hval 7 22 v7 rfl rfl)
  have k7 := h7
  have lt7 : ∀ x ∈ p7, x.block < W.heap.size := by obtain ⟨m, hm⟩ := k7; exact DataW.trod_lt m _ _ _ hm
  obtain ⟨w7, m7⟩ := strs_of h7
  obtain ⟨a8, rfl, rfl, rfl, w8⟩ := open_int Trym.underlying3 (hval 8 3 v8 rfl rfl) h8
  clear hA0 hval0
  refine (walk a3 a8 a0 len0 cap0 a1 len1 cap1 a2 len2 cap2 a4 len4 cap4 a5 len5 cap5 a6 len6 cap6 a7 len7 cap7 W m0 w0 m1 w1 m2 w2 m4 w4 m5 w5 m6 w6 m7 w7).mono fun e W' ⟨he, bel⟩ => ?_
  subst he
  exact ⟨_, rfl, _, _, _, [], _, [], hW', trodAll_mk1 (shut_bool Trym.underlying4 _), (trodAll_cons_mk (Below.trod laidOut (by kernel_rfl) (of_decide_eq_true (by kernel_rfl)) k0 bel lt0) (trodAll_cons_mk (Below.trod laidOut (by kernel_rfl) (of_decide_eq_true (by kernel_rfl)) k1 bel lt1) (trodAll_cons_mk (Below.trod laidOut (by kernel_rfl) (of_decide_eq_true (by kernel_rfl)) k2 bel lt2) (trodAll_cons_mk (shut_bool Trym.underlying4 _) (trodAll_cons_mk (Below.trod laidOut (by kernel_rfl) (of_decide_eq_true (by kernel_rfl)) k4 bel lt4) (trodAll_cons_mk (Below.trod laidOut (by kernel_rfl) (of_decide_eq_true (by kernel_rfl)) k5 bel lt5) (trodAll_cons_mk (Below.trod laidOut (by kernel_rfl) (of_decide_eq_true (by kernel_rfl)) k6 bel lt6) (trodAll_cons_mk (Below.trod laidOut (by kernel_rfl) (of_decide_eq_true (by kernel_rfl)) k7 bel lt7) (trodAll_cons_mk (shut_int Trym.underlying3 w8) trodAll_mk0))))))))), rfl, bel.frame _, fun h => by cases h⟩

theorem over : Rows.fnBalancesVerbScriptRow.holds Trym.pinned (OpenSpec.ofChange Rows.fnBalancesVerbScriptSpec) :=
  OpenClaim.holds_of_wide 3 Trym.f3 rfl rfl rfl rfl rfl rfl rfl ⟨rfl, rfl, rfl, rfl, rfl⟩ rfl rfl rfl rfl rfl (by kernel_rfl) Trym.func3 (by kernel_rfl)
    (of_decide_eq_true (by kernel_rfl)) (by unfold Func.isWrapper; first | (rw [if_pos (by decide +kernel)]; kernel_rfl) | (rw [if_neg (by decide +kernel)]; exact ⟨rfl, rfl⟩))
    (fun os started H enc _ => lifted os started H enc)

/-- ████ THE STATEMENT ████ -/
theorem proved : Rows.FnBalancesVerbScriptSaid := over
end Go.Proofs.Qxb6604647aMods.fnBalancesVerbScript
