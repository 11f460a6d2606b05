/- What is deferred and recorded on a branch shows in the parent when she accepts it and not before: n025_29.FnBranchIsolatedThenAcceptMerges returns true for every input. Conditions: none on the input; the dump is cut with -reflectrows -leanrows. -/
import Derived.Test.YtieeikddbdkehaaGreatRows
import Derived.WalkKit
import Derived.ProofKit
import Derived.OpenShut
import Derived.ChangeOld
import Derived.Below
import Derived.Test.YtieeikddbdkehaaGreatCtxe
import Derived.ShutString
namespace Go.Proofs.YtieeikddbdkehaaGreat.fnBranchIsolatedThenAcceptMerges
open Go.ChangeShapes Go.WideShapes Go.ChangeAt Go.RowKit
open Go.ChangeMaps (open_string shut_string)
set_option linter.unusedVariables false      -- a walk need not use every 'w<i>' (that an integer argument fits its kind)

theorem own : ownKnob Tryz.prog.godebug = none := by kernel_rfl

set_option maxHeartbeats 1000000 in
set_option maxRecDepth 100000 in
theorem zero (a0 : Int) (k m : Nat) (hk : k ≤ 4096) (hm : m ≤ 4096) (w : World) :
    Calls Tryz.prog 4 #[.int .i64 a0, .int .i64 0, .int .i64 k, .int .i64 m] w fun e w' => e = .returned (.bool true) ∧ Below w.heap.size w w' := by
  have hk1 : ¬ (4096 : Int) < (k : Int) := by omega
  have hm1 : ¬ (4096 : Int) < (m : Int) := by omega
  go_enter Tryz.func4, Tryz.ntmps4
  go_wp2_with fail
  refine (mk_made _ a0 0 _ k (by omega)).mono ?_
  rintro e w1 ⟨B, E, v, rfl, hm⟩
  have HM := Lib.hid hm
  clear hm
  go_wp2_with fail
  refine (branch_made HM.out).mono ?_
  rintro e w2 ⟨B2, rfl, hm⟩
  have HN := Lib.hid hm
  clear hm
  go_wp2_with fail
  go_loopw [12] (fun i wr => ∃ j : Nat, j ≤ m ∧ i = .int .i64 j ∧ Hid (Lp B2 ⟨E, 0, none⟩ 0 a0 w2 j wr)) (fun i _ => m - (intOf i).toNat)
  case atStart => exact ⟨0, Nat.zero_le _, rfl, Lp.start ⟨_, HN.out.rc⟩⟩
  case round =>
    obtain ⟨j, hj, rfl, HJ⟩ := hrel
    by_cases hlt : j < m
    · go_wp2_with (go_at_call 15; refine (defer_lp _ w2 _ _ 0 a0 j HJ.out (by omega)).mono ?_; rintro e w3 ⟨rfl, hl⟩)
      exact ⟨⟨j + 1, by omega, by go_num, hl⟩, by simp [intOf]; omega⟩
    · go_wp2_with fail
      obtain rfl : j = m := by omega
      refine (iso_set HM.out HN.out HJ.out).mono ?_
      rintro e w3 ⟨rfl, _, v2, rfl, hm⟩
      have HT := Lib.hid hm
      clear hm
      go_wp2_with fail
      refine (len_rec HT.out.rc).mono ?_
      rintro e _ ⟨rfl, rfl⟩
      go_wp2_with fail
      refine (depthOf _ B _ _ _ _ HT.out.rc.ctx).mono ?_
      rintro e _ ⟨rfl, rfl⟩
      go_wp2_with fail
      refine (errIs_same _ B _ _ _ _ HT.out.rc.ctx).mono ?_
      rintro e _ ⟨rfl, rfl⟩
      go_wp2_with fail
      refine (acc_take HT.out (by omega) (by omega)).mono ?_
      rintro e w4 ⟨rfl, v3, hm⟩
      have H4 := Lib.hid hm
      clear hm
      go_wp2_with fail
      refine (len_rec H4.out.rc).mono ?_
      rintro e _ ⟨rfl, rfl⟩
      go_wp2_with fail
      refine (depthOf _ B _ _ _ _ H4.out.rc.ctx).mono ?_
      rintro e _ ⟨rfl, rfl⟩
      go_wp2_with fail
      refine (errIs_same _ B _ _ _ _ H4.out.rc.ctx).mono ?_
      rintro e _ ⟨rfl, rfl⟩
      go_wp2_with fail
      go_ret
      exact ⟨rfl, H4.out.below⟩
set_option maxHeartbeats 1000000 in
set_option maxRecDepth 100000 in
theorem deep (a0 d : Int) (hd : 0 < d) (k m : Nat) (hk : k ≤ 4096) (hm : m ≤ 4096) (w : World) :
    Calls Tryz.prog 4 #[.int .i64 a0, .int .i64 d, .int .i64 k, .int .i64 m] w fun e w' => e = .returned (.bool true) ∧ Below w.heap.size w w' := by
  have hk1 : ¬ (4096 : Int) < (k : Int) := by omega
  have hm1 : ¬ (4096 : Int) < (m : Int) := by omega
  have hd0 : ¬ d < 0 := by omega
  have hd1 : ¬ d = 0 := by omega
  go_enter Tryz.func4, Tryz.ntmps4
  go_wp2_with fail
  refine (mk_made _ a0 d _ k (by omega)).mono ?_
  rintro e w1 ⟨B, E, v, rfl, hm⟩
  have HM := Lib.hid hm
  clear hm
  go_wp2_with fail
  refine (branch_made HM.out).mono ?_
  rintro e w2 ⟨B2, rfl, hm⟩
  have HN := Lib.hid hm
  clear hm
  go_wp2_with fail
  go_loopw [12] (fun i wr => ∃ j : Nat, j ≤ m ∧ i = .int .i64 j ∧ Hid (Lp B2 ⟨E, 0, none⟩ d a0 w2 j wr)) (fun i _ => m - (intOf i).toNat)
  case atStart => exact ⟨0, Nat.zero_le _, rfl, Lp.start ⟨_, HN.out.rc⟩⟩
  case round =>
    obtain ⟨j, hj, rfl, HJ⟩ := hrel
    by_cases hlt : j < m
    · go_wp2_with (go_at_call 15; refine (defer_lp _ w2 _ _ d a0 j HJ.out (by omega)).mono ?_; rintro e w3 ⟨rfl, hl⟩)
      exact ⟨⟨j + 1, by omega, by go_num, hl⟩, by simp [intOf]; omega⟩
    · go_wp2_with fail
      obtain rfl : j = m := by omega
      refine (iso_keep HM.out HN.out HJ.out (by omega)).mono ?_
      rintro e w3 ⟨rfl, v2, hm⟩
      have HT := Lib.hid hm
      clear hm
      go_wp2_with fail
      refine (len_rec HT.out.rc).mono ?_
      rintro e _ ⟨rfl, rfl⟩
      go_wp2_with fail
      refine (depthOf _ B _ _ _ _ HT.out.rc.ctx).mono ?_
      rintro e _ ⟨rfl, rfl⟩
      go_wp2_with fail
      refine (errIs_same _ B _ _ _ _ HT.out.rc.ctx).mono ?_
      rintro e _ ⟨rfl, rfl⟩
      go_wp2_with fail
      refine (acc_take HT.out (by omega) (by omega)).mono ?_
      rintro e w4 ⟨rfl, v3, hm⟩
      have H4 := Lib.hid hm
      clear hm
      go_wp2_with fail
      refine (len_rec H4.out.rc).mono ?_
      rintro e _ ⟨rfl, rfl⟩
      go_wp2_with fail
      refine (depthOf _ B _ _ _ _ H4.out.rc.ctx).mono ?_
      rintro e _ ⟨rfl, rfl⟩
      go_wp2_with fail
      refine (errIs_same _ B _ _ _ _ H4.out.rc.ctx).mono ?_
      rintro e _ ⟨rfl, rfl⟩
      go_wp2_with fail
      go_ret
      exact ⟨rfl, H4.out.below⟩
theorem walk (a0 : Int) (a1 : Int) (a2 : Int) (a3 : Int) (w0 : (Lit.int .i64 a0).wf = true) (w1 : (Lit.int .i64 a1).wf = true) (w2 : (Lit.int .i64 a2).wf = true) (w3 : (Lit.int .i64 a3).wf = true) (w : World) :
    Calls Tryz.prog 4 #[.int .i64 a0, .int .i64 a1, .int .i64 a2, .int .i64 a3] w fun e w' => e = .returned (.bool true) ∧ Below w.heap.size w w' := by
  by_cases h1 : a1 < 0
  · go_enter Tryz.func4, Tryz.ntmps4
    go_wp2_with fail
    go_ret
    exact ⟨rfl, Below.refl _ _⟩
  by_cases h2 : a2 < 0
  · go_enter Tryz.func4, Tryz.ntmps4
    go_wp2_with fail
    go_ret
    exact ⟨rfl, Below.refl _ _⟩
  by_cases h5 : 4096 < a2
  · go_enter Tryz.func4, Tryz.ntmps4
    go_wp2_with fail
    go_ret
    exact ⟨rfl, Below.refl _ _⟩
  by_cases h4 : a3 < 0
  · go_enter Tryz.func4, Tryz.ntmps4
    go_wp2_with fail
    go_ret
    exact ⟨rfl, Below.refl _ _⟩
  by_cases h6 : 4096 < a3
  · go_enter Tryz.func4, Tryz.ntmps4
    go_wp2_with fail
    go_ret
    exact ⟨rfl, Below.refl _ _⟩
  obtain ⟨k, rfl⟩ : ∃ k : Nat, a2 = k := ⟨a2.toNat, by omega⟩
  obtain ⟨m, rfl⟩ : ∃ k : Nat, a3 = k := ⟨a3.toNat, by omega⟩
  by_cases h0 : a1 = 0
  · subst h0
    exact zero a0 k m (by omega) (by omega) w
  · exact deep a0 a1 (by omega) k m (by omega) (by omega) w

set_option maxRecDepth 100000 in
theorem lifted (os : Os) (started : os.Started) (H : Type) (enc : TypeId × Value → H) :
    ReturnsInHanded {} Tryz.checked os 4 .any (Rows.fnBranchIsolatedThenAcceptMergesSpec.pre6 enc Tryz.prog Tryz.f4 Rows.fnBranchIsolatedThenAcceptMergesRow.domain false) (Rows.fnBranchIsolatedThenAcceptMergesSpec.post enc Tryz.prog Tryz.f4 false true false false) := by
  refine returnsInHanded_of_change (C := Tryz.checked) own started (by kernel_rfl) Tryz.func4
    (ChangeSpec.witness6 (enc := enc) (C := Tryz.checked) false ⟨#[], #[.int .i64 0, .int .i64 0, .int .i64 0, .int .i64 0], []⟩ 8 (by kernel_rfl) (by kernel_rfl) (by kernel_rfl) (by kernel_rfl)) ?_
  intro W base args ds gs before hval0 hW hcnd _
  have hval : ∀ (j : Nat) t v, Tryz.f4.params[j]? = some t → args[j]? = some v → Value.okWide Tryz.prog W .any base t v := hval0
  have hW' := hW
  obtain ⟨p, q, hA0, hV, rfl, hfz, hnd⟩ := hW
  have hA : DataW.TrodAll enc Tryz.prog W 0 (fun _ => true) true Tryz.f4.params.toList args.toList ds p := hA0
  rw [Tryz.params4] at hA hval
  obtain ⟨v0, vs0, d0, ds0, p0, q0, hargs, rfl, rfl, h0, r0⟩ := trodAll_cons hA
  obtain ⟨v1, vs1, d1, ds1, p1, q1, rfl, rfl, rfl, h1, r1⟩ := trodAll_cons r0
  obtain ⟨v2, vs2, d2, ds2, p2, q2, rfl, rfl, rfl, h2, r2⟩ := trodAll_cons r1
  obtain ⟨v3, vs3, d3, ds3, p3, q3, rfl, rfl, rfl, h3, r3⟩ := trodAll_cons r2
  obtain ⟨rfl, rfl, rfl⟩ := trodAll_nil r3
  obtain rfl : args = #[v0, v1, v2, v3] := by cases args; simp_all
  obtain ⟨rfl, rfl⟩ := trodVars_none hV
  obtain ⟨a0, rfl, rfl, rfl, w0⟩ := open_int Tryz.underlying3 (hval 0 3 v0 rfl rfl) h0
  obtain ⟨a1, rfl, rfl, rfl, w1⟩ := open_int Tryz.underlying3 (hval 1 3 v1 rfl rfl) h1
  obtain ⟨a2, rfl, rfl, rfl, w2⟩ := open_int Tryz.underlying3 (hval 2 3 v2 rfl rfl) h2
  obtain ⟨a3, rfl, rfl, rfl, w3⟩ := open_int Tryz.underlying3 (hval 3 3 v3 rfl rfl) h3
  clear hA0 hval0
  simp only [List.append_nil] at hW'
  refine (walk a0 a1 a2 a3 w0 w1 w2 w3 W).mono fun e W' ⟨he, hg⟩ => ?_
  subst he
  exact ⟨_, rfl, _, _, _, [], [], [], hW', (trodAll_cons_mk (shut_bool Tryz.underlying4 _) trodAll_mk0), (trodAll_cons_mk (shut_int Tryz.underlying3 w0) (trodAll_cons_mk (shut_int Tryz.underlying3 w1) (trodAll_cons_mk (shut_int Tryz.underlying3 w2) (trodAll_cons_mk (shut_int Tryz.underlying3 w3) trodAll_mk0)))), rfl, hg.frame _, fun h => by cases h⟩

theorem over : Rows.fnBranchIsolatedThenAcceptMergesRow.holds Tryz.pinned (OpenSpec.ofChange Rows.fnBranchIsolatedThenAcceptMergesSpec) :=
  OpenClaim.holds_of_wide 4 Tryz.f4 rfl rfl rfl rfl rfl rfl rfl ⟨rfl, rfl, rfl, rfl, rfl⟩ rfl rfl rfl rfl rfl (by kernel_rfl) Tryz.func4 (by kernel_rfl)
    (of_decide_eq_true (by kernel_rfl)) (by unfold Func.isWrapper; first | (rw [if_pos (by decide +kernel)]; kernel_rfl) | (rw [if_neg (by decide +kernel)]; exact ⟨rfl, rfl⟩))
    (fun os started H enc _ => lifted os started H enc)

theorem proved : Rows.FnBranchIsolatedThenAcceptMergesSaid :=
  over
#print axioms proved
end Go.Proofs.YtieeikddbdkehaaGreat.fnBranchIsolatedThenAcceptMerges
