/-
  A proof of 'Rows.FnWorseThanExactlyOneOfThreeSaid'. The frame was written by program (the kit's proof-skeleton tool) for this function; the walk and the plain law are this seat's own work.
-/
import Derived.Test.Qxb6604647aModsRows
import Derived.WalkKit
import Derived.ProofKit
import Derived.OpenShut
import Derived.ShutString
import Derived.Test.Qxb6604647aModsRate
namespace Go.Proofs.Qxb6604647aMods.fnWorseThanExactlyOneOfThree
open Go.ChangeShapes Go.WideShapes Go.ChangeAt Go.RowKit
open Go.ChangeMaps (open_string shut_string)
set_option linter.unusedVariables false      -- a walk need not use every 'w<i>' (that an integer argument fits its kind)

theorem own : ownKnob Trym.prog.godebug = none := by kernel_rfl

/-! ### The bound on the lengths: whatever it answers, it turns nothing -/
theorem bytes_any (a0 a2 : ByteArray) (a1 a3 : Int) (w : World) :
    Calls Trym.prog 11 #[.string a0, .int .i64 a1, .string a2, .int .i64 a3] w fun e w' => (∃ b : Bool, e = .returned (.bool b)) ∧ w' = w := by
  go_enter Trym.func11, Trym.ntmps11
  go_wp2
  all_goals
    go_ret
    exact ⟨⟨_, rfl⟩, rfl⟩

set_option maxHeartbeats 2000000 in
theorem walk_lt_in (a0 : ByteArray) (a1 : Int) (a2 : ByteArray) (a3 : Int) (w0 : a0.size ≤ 9223372036854775807) (w2 : a2.size ≤ 9223372036854775807) (b1l : -9223372036854775808 ≤ a1) (b1h : a1 ≤ 9223372036854775807) (b3l : -9223372036854775808 ≤ a3) (b3h : a3 ≤ 9223372036854775807) (h0 : ¬ 262144 < (a0.size : Int)) (h2 : ¬ 262144 < (a2.size : Int)) (hlt : a1 < a3) (hm : a1 < 9223372036854775807) (w : World) :
    Calls Trym.prog 4 #[.string a0, .int .i64 a1, .string a2, .int .i64 a3] w fun e w' => e = .returned (.bool true) ∧ Grown w w' := by
  go_enter Trym.func4, Trym.ntmps4
  go_wp2_with (first | (go_at_call 11; refine (bytes_any _ _ _ _ _).mono ?_; rintro e w' ⟨⟨b, rfl⟩, rfl⟩; cases b) | (go_at_call 12; refine (Pl.new_any _ _ _).mono ?_; rintro e w' ⟨rfl, c1, rfl⟩) | (go_at_call 13; refine (Pl.worse_any _ _ _ _ _).mono ?_; rintro e w' ⟨rfl, c1, c2, c3, c4, rfl⟩))
  all_goals
    go_ret
    refine ⟨rfl, ?_⟩
    repeat apply Grown.alloc
    exact Grown.refl _

set_option maxHeartbeats 2000000 in
theorem walk_gt_in (a0 : ByteArray) (a1 : Int) (a2 : ByteArray) (a3 : Int) (w0 : a0.size ≤ 9223372036854775807) (w2 : a2.size ≤ 9223372036854775807) (b1l : -9223372036854775808 ≤ a1) (b1h : a1 ≤ 9223372036854775807) (b3l : -9223372036854775808 ≤ a3) (b3h : a3 ≤ 9223372036854775807) (h0 : ¬ 262144 < (a0.size : Int)) (h2 : ¬ 262144 < (a2.size : Int)) (hlt : a3 < a1) (hm : a1 < 9223372036854775807) (w : World) :
    Calls Trym.prog 4 #[.string a0, .int .i64 a1, .string a2, .int .i64 a3] w fun e w' => e = .returned (.bool true) ∧ Grown w w' := by
  go_enter Trym.func4, Trym.ntmps4
  go_wp2_with (first | (go_at_call 11; refine (bytes_any _ _ _ _ _).mono ?_; rintro e w' ⟨⟨b, rfl⟩, rfl⟩; cases b) | (go_at_call 12; refine (Pl.new_any _ _ _).mono ?_; rintro e w' ⟨rfl, c1, rfl⟩) | (go_at_call 13; refine (Pl.worse_any _ _ _ _ _).mono ?_; rintro e w' ⟨rfl, c1, c2, c3, c4, rfl⟩))
  all_goals
    go_ret
    refine ⟨rfl, ?_⟩
    repeat apply Grown.alloc
    exact Grown.refl _

set_option maxHeartbeats 2000000 in
theorem walk_eq_in (a0 : ByteArray) (a1 : Int) (a2 : ByteArray) (w0 : a0.size ≤ 9223372036854775807) (w2 : a2.size ≤ 9223372036854775807) (b1l : -9223372036854775808 ≤ a1) (b1h : a1 ≤ 9223372036854775807) (h0 : ¬ 262144 < (a0.size : Int)) (h2 : ¬ 262144 < (a2.size : Int))  (hm : a1 < 9223372036854775807) (w : World) :
    Calls Trym.prog 4 #[.string a0, .int .i64 a1, .string a2, .int .i64 a1] w fun e w' => e = .returned (.bool true) ∧ Grown w w' := by
  go_enter Trym.func4, Trym.ntmps4
  go_wp2_with (first | (go_at_call 11; refine (bytes_any _ _ _ _ _).mono ?_; rintro e w' ⟨⟨b, rfl⟩, rfl⟩; cases b) | (go_at_call 12; refine (Pl.new_any _ _ _).mono ?_; rintro e w' ⟨rfl, c1, rfl⟩) | (go_at_call 13; refine (Pl.worse_any _ _ _ _ _).mono ?_; rintro e w' ⟨rfl, c1, c2, c3, c4, rfl⟩))
  all_goals
    go_ret
    refine ⟨rfl, ?_⟩
    repeat apply Grown.alloc
    exact Grown.refl _

set_option maxHeartbeats 2000000 in
theorem walk_gt_max (a0 : ByteArray) (a1 : Int) (a2 : ByteArray) (a3 : Int) (w0 : a0.size ≤ 9223372036854775807) (w2 : a2.size ≤ 9223372036854775807) (b1l : -9223372036854775808 ≤ a1) (b1h : a1 ≤ 9223372036854775807) (b3l : -9223372036854775808 ≤ a3) (b3h : a3 ≤ 9223372036854775807) (h0 : ¬ 262144 < (a0.size : Int)) (h2 : ¬ 262144 < (a2.size : Int)) (hlt : a3 < a1) (hm : 9223372036854775807 ≤ a1) (w : World) :
    Calls Trym.prog 4 #[.string a0, .int .i64 a1, .string a2, .int .i64 a3] w fun e w' => e = .returned (.bool true) ∧ Grown w w' := by
  go_enter Trym.func4, Trym.ntmps4
  go_wp2_with (first | (go_at_call 11; refine (bytes_any _ _ _ _ _).mono ?_; rintro e w' ⟨⟨b, rfl⟩, rfl⟩; cases b) | (go_at_call 12; refine (Pl.new_any _ _ _).mono ?_; rintro e w' ⟨rfl, c1, rfl⟩) | (go_at_call 13; refine (Pl.worse_any _ _ _ _ _).mono ?_; rintro e w' ⟨rfl, c1, c2, c3, c4, rfl⟩))
  all_goals
    go_ret
    refine ⟨rfl, ?_⟩
    repeat apply Grown.alloc
    exact Grown.refl _

set_option maxHeartbeats 2000000 in
theorem walk_eq_max (a0 : ByteArray) (a1 : Int) (a2 : ByteArray) (w0 : a0.size ≤ 9223372036854775807) (w2 : a2.size ≤ 9223372036854775807) (b1l : -9223372036854775808 ≤ a1) (b1h : a1 ≤ 9223372036854775807) (h0 : ¬ 262144 < (a0.size : Int)) (h2 : ¬ 262144 < (a2.size : Int))  (hm : 9223372036854775807 ≤ a1) (w : World) :
    Calls Trym.prog 4 #[.string a0, .int .i64 a1, .string a2, .int .i64 a1] w fun e w' => e = .returned (.bool true) ∧ Grown w w' := by
  go_enter Trym.func4, Trym.ntmps4
  go_wp2_with (first | (go_at_call 11; refine (bytes_any _ _ _ _ _).mono ?_; rintro e w' ⟨⟨b, rfl⟩, rfl⟩; cases b) | (go_at_call 12; refine (Pl.new_any _ _ _).mono ?_; rintro e w' ⟨rfl, c1, rfl⟩) | (go_at_call 13; refine (Pl.worse_any _ _ _ _ _).mono ?_; rintro e w' ⟨rfl, c1, c2, c3, c4, rfl⟩))
  all_goals
    go_ret
    refine ⟨rfl, ?_⟩
    repeat apply Grown.alloc
    exact Grown.refl _

/-! ### STEP 1: THE WALK: the Go text returns true. 'Grown w w'': the world has at most new blocks (Derived/RowKit3.lean). Part the cases AHEAD of 'go_enter' where a test parts the walk; take each callee by a contract of your own. -/
theorem walk (a0 : ByteArray) (a1 : Int) (a2 : ByteArray) (a3 : Int) (w0 : a0.size ≤ maxLen) (w1 : (Lit.int .i64 a1).wf = true) (w2 : a2.size ≤ maxLen) (w3 : (Lit.int .i64 a3).wf = true) (w : World) :
    Calls Trym.prog 4 #[.string a0, .int .i64 a1, .string a2, .int .i64 a3] w fun e w' => e = .returned (.bool true) ∧ Grown w w' := by
  obtain ⟨b1l, b1h⟩ := bounds_i64 w1
  obtain ⟨b3l, b3h⟩ := bounds_i64 w3
  unfold maxLen at w0 w2
  by_cases h0 : 262144 < (a0.size : Int)
  · go_enter Trym.func4, Trym.ntmps4
    go_wp2_with (go_at_call 11; refine (bytes_any _ _ _ _ _).mono ?_; rintro e w' ⟨⟨b, rfl⟩, rfl⟩; cases b)
    all_goals
      go_ret
      exact ⟨rfl, Grown.refl _⟩
  by_cases h2 : 262144 < (a2.size : Int)
  · go_enter Trym.func4, Trym.ntmps4
    go_wp2_with (go_at_call 11; refine (bytes_any _ _ _ _ _).mono ?_; rintro e w' ⟨⟨b, rfl⟩, rfl⟩; cases b)
    all_goals
      go_ret
      exact ⟨rfl, Grown.refl _⟩
  by_cases hm : a1 < 9223372036854775807
  · rcases Int.lt_trichotomy a1 a3 with hlt | heq | hgt
    · exact walk_lt_in a0 a1 a2 a3 w0 w2 b1l b1h b3l b3h h0 h2 hlt hm w
    · subst heq
      exact walk_eq_in a0 a1 a2 w0 w2 b1l b1h h0 h2 hm w
    · exact walk_gt_in a0 a1 a2 a3 w0 w2 b1l b1h b3l b3h h0 h2 hgt hm w
  · rcases Int.lt_trichotomy a1 a3 with hlt | heq | hgt
    · omega
    · subst heq
      exact walk_eq_max a0 a1 a2 w0 w2 b1l b1h h0 h2 (by omega) w
    · exact walk_gt_max a0 a1 a2 a3 w0 w2 b1l b1h b3l b3h h0 h2 hgt (by omega) w

/-! ### THE ROW's STEP: WRITTEN OUT: LEAVE IT -/
set_option maxRecDepth 100000 in
theorem lifted (os : Os) (started : os.Started) (H : Type) (enc : TypeId × Value → H) :
    ReturnsInHanded {} Trym.checked os 4 .any (Rows.fnWorseThanExactlyOneOfThreeSpec.pre6 enc Trym.prog Trym.f4 Rows.fnWorseThanExactlyOneOfThreeRow.domain false) (Rows.fnWorseThanExactlyOneOfThreeSpec.post enc Trym.prog Trym.f4 false true false false) := by
  refine returnsInHanded_of_change (C := Trym.checked) own started (by kernel_rfl) Trym.func4
    (ChangeSpec.witness6 (enc := enc) (C := Trym.checked) false ⟨#[], #[.string ByteArray.empty, .int .i64 0, .string ByteArray.empty, .int .i64 0], []⟩ 8 (by kernel_rfl) (by kernel_rfl) (by kernel_rfl) (by kernel_rfl)) ?_
  intro W base args ds gs before hval0 hW hcnd _
  have hval : ∀ (j : Nat) t v, Trym.f4.params[j]? = some t → args[j]? = some v → Value.okWide Trym.prog W .any base t v := hval0
  have hW' := hW
  obtain ⟨p, q, hA0, hV, rfl, hfz, hnd⟩ := hW
  have hA : DataW.TrodAll enc Trym.prog W 0 (fun _ => true) true Trym.f4.params.toList args.toList ds p := hA0
  rw [Trym.params4] at hA hval
  obtain ⟨v0, vs0, d0, ds0, p0, q0, hargs, rfl, rfl, h0, r0⟩ := trodAll_cons hA
  obtain ⟨v1, vs1, d1, ds1, p1, q1, rfl, rfl, rfl, h1, r1⟩ := trodAll_cons r0
  obtain ⟨v2, vs2, d2, ds2, p2, q2, rfl, rfl, rfl, h2, r2⟩ := trodAll_cons r1
  obtain ⟨v3, vs3, d3, ds3, p3, q3, rfl, rfl, rfl, h3, r3⟩ := trodAll_cons r2
  obtain ⟨rfl, rfl, rfl⟩ := trodAll_nil r3
  obtain rfl : args = #[v0, v1, v2, v3] := by cases args; simp_all
  obtain ⟨rfl, rfl⟩ := trodVars_none hV
  obtain ⟨a0, rfl, rfl, rfl, w0⟩ := open_string Trym.underlying9 (hval 0 9 v0 rfl rfl) h0
  obtain ⟨a1, rfl, rfl, rfl, w1⟩ := open_int Trym.underlying3 (hval 1 3 v1 rfl rfl) h1
  obtain ⟨a2, rfl, rfl, rfl, w2⟩ := open_string Trym.underlying9 (hval 2 9 v2 rfl rfl) h2
  obtain ⟨a3, rfl, rfl, rfl, w3⟩ := open_int Trym.underlying3 (hval 3 3 v3 rfl rfl) h3
  clear hA0 hval0
  simp only [List.append_nil] at hW'
  refine (walk a0 a1 a2 a3 w0 w1 w2 w3 W).mono fun e W' ⟨he, hg⟩ => ?_
  subst he
  exact ⟨_, rfl, post_of_same (pa := []) (pv := []) hW' (fun _ _ _ => (trodAll_cons_mk (shut_bool Trym.underlying4 _) trodAll_mk0)) (fun sp _ => (trodAll_cons_mk (shut_string Trym.underlying9 w0) (trodAll_cons_mk (shut_int Trym.underlying3 w1) (trodAll_cons_mk (shut_string Trym.underlying9 w2) (trodAll_cons_mk (shut_int Trym.underlying3 w3) trodAll_mk0))))) (fun _ _ => rfl) rfl
    (hg.frame _) hg.2.1 (ok_one (by kernel_rfl) rfl (okWide_bool_mk Trym.underlying4 _))⟩

theorem over : Rows.fnWorseThanExactlyOneOfThreeRow.holds Trym.pinned (OpenSpec.ofChange Rows.fnWorseThanExactlyOneOfThreeSpec) :=
  OpenClaim.holds_of_wide 4 Trym.f4 rfl rfl rfl rfl rfl rfl rfl ⟨rfl, rfl, rfl, rfl, rfl⟩ rfl rfl rfl rfl rfl (by kernel_rfl) Trym.func4 (by kernel_rfl)
    (of_decide_eq_true (by kernel_rfl)) (by unfold Func.isWrapper; first | (rw [if_pos (by decide +kernel)]; kernel_rfl) | (rw [if_neg (by decide +kernel)]; exact ⟨rfl, rfl⟩))
    (fun os started H enc _ => lifted os started H enc)

/-- ████ THE STATEMENT ████ -/
theorem proved : Rows.FnWorseThanExactlyOneOfThreeSaid :=
  over
end Go.Proofs.Qxb6604647aMods.fnWorseThanExactlyOneOfThree
