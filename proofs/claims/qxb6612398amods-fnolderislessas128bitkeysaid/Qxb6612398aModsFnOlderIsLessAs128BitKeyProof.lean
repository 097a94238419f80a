/-
  A proof of 'Rows.FnOlderIsLessAs128BitKeySaid'. The frame was written by program (the kit's proof-skeleton tool) for this function; the walk and the plain law are this seat's own work.
-/
import Derived.Test.Qxb6612398aModsRows
import Derived.WalkKit
import Derived.ProofKit
import Derived.OpenShut
import Derived.ShutString
import Derived.Test.Qxb6612398aModsBorrow
namespace Go.Proofs.Qxb6612398aMods.fnOlderIsLessAs128BitKey
open Go.ChangeShapes Go.WideShapes Go.ChangeAt Go.RowKit
open Go.ChangeMaps (open_string shut_string)
set_option linter.unusedVariables false      -- a walk need not use every 'w<i>' (that an integer argument fits its kind)

theorem own : ownKnob Trym.prog.godebug = none := by kernel_rfl

set_option maxHeartbeats 2000000 in
theorem walk_main (a0 a1 a2 : Int) (a3 : ByteArray) (a4 : Bool) (a5 a6 a7 : Int) (a8 : ByteArray) (a9 : Bool) (l0 : 0 ≤ a0) (u0 : a0 < 18446744073709551616) (l1 : 0 ≤ a1) (u1 : a1 < 18446744073709551616) (l5 : 0 ≤ a5) (u5 : a5 < 18446744073709551616) (l6 : 0 ≤ a6) (u6 : a6 < 18446744073709551616)
    (w3 : a3.size ≤ 9223372036854775807) (w8 : a8.size ≤ 9223372036854775807) (h3 : ¬ 524288 < (a3.size : Int)) (h8 : ¬ 524288 < (a8.size : Int)) (w : World) :
    Calls Trym.prog 3 #[.int .u64 a0, .int .u64 a1, .int .i64 a2, .string a3, .bool a4, .int .u64 a5, .int .u64 a6, .int .i64 a7, .string a8, .bool a9] w fun e w' => e = .returned (.bool true) ∧ Grown w w' := by
  go_enter Trym.func3, Trym.ntmps3
  go_wp2_with (first | (go_at_call 6; refine (Pl.bytes6_any _ _ _ _ _ _ _ _ _ _ _).mono ?_; rintro e w' ⟨⟨b, rfl⟩, rfl⟩; cases b) | (go_at_call 7; refine (Pl.zzolder_any _ _ _ _ _ _ _ _ _ _ _).mono ?_; rintro e w' ⟨rfl, c1, c2, c3, c4, rfl⟩) | (go_at_call 8; refine (Pl.borrow_any a0 a1 a5 a6 l0 u0 l1 u1 l5 u5 l6 u6 _).mono ?_; rintro e w' ⟨rfl, rfl⟩))
  all_goals
    go_ret
    refine ⟨Pl.ret_bool (by simp), ?_⟩
    repeat apply Grown.alloc
    exact Grown.refl _

/-! ### STEP 1: THE WALK: the Go text returns true. 'Grown w w'': the world has at most new blocks (Derived/RowKit3.lean). Part the cases AHEAD of 'go_enter' where a test parts the walk; take each callee by a contract of your own. -/
theorem walk (a0 : Int) (a1 : Int) (a2 : Int) (a3 : ByteArray) (a4 : Bool) (a5 : Int) (a6 : Int) (a7 : Int) (a8 : ByteArray) (a9 : Bool) (w0 : (Lit.int .u64 a0).wf = true) (w1 : (Lit.int .u64 a1).wf = true) (w2 : (Lit.int .i64 a2).wf = true) (w3 : a3.size ≤ maxLen) (w5 : (Lit.int .u64 a5).wf = true) (w6 : (Lit.int .u64 a6).wf = true) (w7 : (Lit.int .i64 a7).wf = true) (w8 : a8.size ≤ maxLen) (w : World) :
    Calls Trym.prog 3 #[.int .u64 a0, .int .u64 a1, .int .i64 a2, .string a3, .bool a4, .int .u64 a5, .int .u64 a6, .int .i64 a7, .string a8, .bool a9] w fun e w' => e = .returned (.bool true) ∧ Grown w w' := by
  unfold maxLen at w3 w8
  by_cases h3 : 524288 < (a3.size : Int)
  · go_enter Trym.func3, Trym.ntmps3
    go_wp2_with (go_at_call 6; refine (Pl.bytes6_any _ _ _ _ _ _ _ _ _ _ _).mono ?_; rintro e w' ⟨⟨b, rfl⟩, rfl⟩; cases b)
    all_goals
      go_ret
      exact ⟨rfl, Grown.refl _⟩
  by_cases h8 : 524288 < (a8.size : Int)
  · go_enter Trym.func3, Trym.ntmps3
    go_wp2_with (go_at_call 6; refine (Pl.bytes6_any _ _ _ _ _ _ _ _ _ _ _).mono ?_; rintro e w' ⟨⟨b, rfl⟩, rfl⟩; cases b)
    all_goals
      go_ret
      exact ⟨rfl, Grown.refl _⟩
  have b0 := bounds_u64 w0
  have b1 := bounds_u64 w1
  have b5 := bounds_u64 w5
  have b6 := bounds_u64 w6
  exact walk_main a0 a1 a2 a3 a4 a5 a6 a7 a8 a9 (by omega) (by omega) (by omega) (by omega) (by omega) (by omega) (by omega) (by omega) w3 w8 h3 h8 w

/-! ### THE ROW's STEP: WRITTEN OUT: LEAVE IT -/
set_option maxRecDepth 100000 in
theorem lifted (os : Os) (started : os.Started) (H : Type) (enc : TypeId × Value → H) :
    ReturnsInHanded {} Trym.checked os 3 .any (Rows.fnOlderIsLessAs128BitKeySpec.pre6 enc Trym.prog Trym.f3 Rows.fnOlderIsLessAs128BitKeyRow.domain false) (Rows.fnOlderIsLessAs128BitKeySpec.post enc Trym.prog Trym.f3 false true false false) := by
  refine returnsInHanded_of_change (C := Trym.checked) own started (by kernel_rfl) Trym.func3
    (ChangeSpec.witness6 (enc := enc) (C := Trym.checked) false ⟨#[], #[.int .u64 0, .int .u64 0, .int .i64 0, .string ByteArray.empty, .bool false, .int .u64 0, .int .u64 0, .int .i64 0, .string ByteArray.empty, .bool false], []⟩ 8 (by kernel_rfl) (by kernel_rfl) (by kernel_rfl) (by kernel_rfl)) ?_
  intro W base args ds gs before hval0 hW hcnd _
  have hval : ∀ (j : Nat) t v, Trym.f3.params[j]? = some t → args[j]? = some v → Value.okWide Trym.prog W .any base t v := hval0
  have hW' := hW
  obtain ⟨p, q, hA0, hV, rfl, hfz, hnd⟩ := hW
  have hA : DataW.TrodAll enc Trym.prog W 0 (fun _ => true) true Trym.f3.params.toList args.toList ds p := hA0
  rw [Trym.params3] at hA hval
  obtain ⟨v0, vs0, d0, ds0, p0, q0, hargs, rfl, rfl, h0, r0⟩ := trodAll_cons hA
  obtain ⟨v1, vs1, d1, ds1, p1, q1, rfl, rfl, rfl, h1, r1⟩ := trodAll_cons r0
  obtain ⟨v2, vs2, d2, ds2, p2, q2, rfl, rfl, rfl, h2, r2⟩ := trodAll_cons r1
  obtain ⟨v3, vs3, d3, ds3, p3, q3, rfl, rfl, rfl, h3, r3⟩ := trodAll_cons r2
  obtain ⟨v4, vs4, d4, ds4, p4, q4, rfl, rfl, rfl, h4, r4⟩ := trodAll_cons r3
  obtain ⟨v5, vs5, d5, ds5, p5, q5, rfl, rfl, rfl, h5, r5⟩ := trodAll_cons r4
  obtain ⟨v6, vs6, d6, ds6, p6, q6, rfl, rfl, rfl, h6, r6⟩ := trodAll_cons r5
  obtain ⟨v7, vs7, d7, ds7, p7, q7, rfl, rfl, rfl, h7, r7⟩ := trodAll_cons r6
  obtain ⟨v8, vs8, d8, ds8, p8, q8, rfl, rfl, rfl, h8, r8⟩ := trodAll_cons r7
  obtain ⟨v9, vs9, d9, ds9, p9, q9, rfl, rfl, rfl, h9, r9⟩ := trodAll_cons r8
  obtain ⟨rfl, rfl, rfl⟩ := trodAll_nil r9
  obtain rfl : args = #[v0, v1, v2, v3, v4, v5, v6, v7, v8, v9] := by cases args; simp_all
  obtain ⟨rfl, rfl⟩ := trodVars_none hV
  obtain ⟨a0, rfl, rfl, rfl, w0⟩ := open_int Trym.underlying22 (hval 0 22 v0 rfl rfl) h0
  obtain ⟨a1, rfl, rfl, rfl, w1⟩ := open_int Trym.underlying22 (hval 1 22 v1 rfl rfl) h1
  obtain ⟨a2, rfl, rfl, rfl, w2⟩ := open_int Trym.underlying3 (hval 2 3 v2 rfl rfl) h2
  obtain ⟨a3, rfl, rfl, rfl, w3⟩ := open_string Trym.underlying9 (hval 3 9 v3 rfl rfl) h3
  obtain ⟨a4, rfl, rfl, rfl⟩ := open_bool Trym.underlying4 (hval 4 4 v4 rfl rfl) h4
  obtain ⟨a5, rfl, rfl, rfl, w5⟩ := open_int Trym.underlying22 (hval 5 22 v5 rfl rfl) h5
  obtain ⟨a6, rfl, rfl, rfl, w6⟩ := open_int Trym.underlying22 (hval 6 22 v6 rfl rfl) h6
  obtain ⟨a7, rfl, rfl, rfl, w7⟩ := open_int Trym.underlying3 (hval 7 3 v7 rfl rfl) h7
  obtain ⟨a8, rfl, rfl, rfl, w8⟩ := open_string Trym.underlying9 (hval 8 9 v8 rfl rfl) h8
  obtain ⟨a9, rfl, rfl, rfl⟩ := open_bool Trym.underlying4 (hval 9 4 v9 rfl rfl) h9
  clear hA0 hval0
  simp only [List.append_nil] at hW'
  refine (walk a0 a1 a2 a3 a4 a5 a6 a7 a8 a9 w0 w1 w2 w3 w5 w6 w7 w8 W).mono fun e W' ⟨he, hg⟩ => ?_
  subst he
  exact ⟨_, rfl, post_of_same (pa := []) (pv := []) hW' (fun _ _ _ => (trodAll_cons_mk (shut_bool Trym.underlying4 _) trodAll_mk0)) (fun sp _ => (trodAll_cons_mk (shut_int Trym.underlying22 w0) (trodAll_cons_mk (shut_int Trym.underlying22 w1) (trodAll_cons_mk (shut_int Trym.underlying3 w2) (trodAll_cons_mk (shut_string Trym.underlying9 w3) (trodAll_cons_mk (shut_bool Trym.underlying4 _) (trodAll_cons_mk (shut_int Trym.underlying22 w5) (trodAll_cons_mk (shut_int Trym.underlying22 w6) (trodAll_cons_mk (shut_int Trym.underlying3 w7) (trodAll_cons_mk (shut_string Trym.underlying9 w8) (trodAll_cons_mk (shut_bool Trym.underlying4 _) trodAll_mk0))))))))))) (fun _ _ => rfl) rfl
    (hg.frame _) hg.2.1 (ok_one (by kernel_rfl) rfl (okWide_bool_mk Trym.underlying4 _))⟩

theorem over : Rows.fnOlderIsLessAs128BitKeyRow.holds Trym.pinned (OpenSpec.ofChange Rows.fnOlderIsLessAs128BitKeySpec) :=
  OpenClaim.holds_of_wide 3 Trym.f3 rfl rfl rfl rfl rfl rfl rfl ⟨rfl, rfl, rfl, rfl, rfl⟩ rfl rfl rfl rfl rfl (by kernel_rfl) Trym.func3 (by kernel_rfl)
    (of_decide_eq_true (by kernel_rfl)) (by unfold Func.isWrapper; first | (rw [if_pos (by decide +kernel)]; kernel_rfl) | (rw [if_neg (by decide +kernel)]; exact ⟨rfl, rfl⟩))
    (fun os started H enc _ => lifted os started H enc)

/-- ████ THE STATEMENT ████ -/
theorem proved : Rows.FnOlderIsLessAs128BitKeySaid :=
  over
end Go.Proofs.Qxb6612398aMods.fnOlderIsLessAs128BitKey
