/- A branch of a parse context is an exact copy of the parent but for the captures: n025_29.FnBranchExactCopy returns true for every input. Conditions: none on the input; the dump is cut with -reflectrows -leanrows. -/
import Derived.Test.YtieeikddbdkehaaGreatRows
import Derived.WalkKit
import Derived.ProofKit
import Derived.OpenShut
import Derived.ChangeOld
import Derived.Below
import Derived.Test.YtieeikddbdkehaaGreatCtxd
import Derived.ShutString
namespace Go.Proofs.YtieeikddbdkehaaGreat.fnBranchExactCopy
open Go.ChangeShapes Go.WideShapes Go.ChangeAt Go.RowKit
open Go.ChangeMaps (open_string shut_string)
set_option linter.unusedVariables false      -- a walk need not use every 'w<i>' (that an integer argument fits its kind)

theorem own : ownKnob Tryz.prog.godebug = none := by kernel_rfl

set_option maxHeartbeats 1000000 in
set_option maxRecDepth 100000 in
theorem steps (a0 a1 : Int) (k : Nat) (hd : ¬ a1 < 0) (hk : k ≤ 4096) (w : World) :
    Calls Tryz.prog 3 #[.int .i64 a0, .int .i64 a1, .int .i64 k] w fun e w' => e = .returned (.bool true) ∧ Below w.heap.size w w' := by
  have hk1 : ¬ (4096 : Int) < (k : Int) := by omega
  go_enter Tryz.func3, Tryz.ntmps3
  go_wp2_with fail
  refine (mk_made _ a0 a1 _ k (by omega)).mono ?_
  rintro e w1 ⟨B, E, v, rfl, hm⟩
  have HM := Lib.hid hm
  clear hm
  go_wp2_with fail
  refine (branch_made HM.out).mono ?_
  rintro e w2 ⟨B2, rfl, hm⟩
  have HN := Lib.hid hm
  clear hm
  have heq := eq_ctx (w := w2) HN.out.ctx HN.out.old.ctx HN.out.ne
  go_wp2_with fail
  clear heq
  refine (len_rec HN.out.rc).mono ?_
  rintro e _ ⟨rfl, rfl⟩
  go_wp2_with fail
  refine (depthOf _ B2 _ _ _ _ HN.out.ctx).mono ?_
  rintro e _ ⟨rfl, rfl⟩
  go_wp2_with fail
  refine (errIs_same _ B2 _ _ _ _ HN.out.ctx).mono ?_
  rintro e _ ⟨rfl, rfl⟩
  go_wp2_with fail
  refine (lookOf _ B2 _ _ _ _ HN.out.ctx).mono ?_
  rintro e _ ⟨rfl, rfl⟩
  go_wp2_with fail
  refine (cursorOf _ B2 _ _ _ _ HN.out.ctx).mono ?_
  rintro e w3 ⟨rfl, hb3⟩
  have H3 : Hid (Rec w3 B ⟨E, 0, none⟩ a1 a0 k v) := HN.out.old.below hb3
  have HB3 := Lib.hid hb3
  clear hb3
  go_wp2_with fail
  refine (cursorOf _ B _ _ _ _ H3.out.ctx).mono ?_
  rintro e w4 ⟨rfl, hb4⟩
  have H4 : Hid (Rec w4 B ⟨E, 0, none⟩ a1 a0 k v) := H3.out.below hb4
  have HB4 := Lib.hid hb4
  clear hb4
  go_wp2_with fail
  refine (len_rec H4.out).mono ?_
  rintro e _ ⟨rfl, rfl⟩
  go_wp2_with fail
  refine (depthOf _ B _ _ _ _ H4.out.ctx).mono ?_
  rintro e _ ⟨rfl, rfl⟩
  go_wp2_with fail
  refine (errIs_same _ B _ _ _ _ H4.out.ctx).mono ?_
  rintro e _ ⟨rfl, rfl⟩
  go_wp2_with fail
  refine (lookOf _ B _ _ _ _ H4.out.ctx).mono ?_
  rintro e _ ⟨rfl, rfl⟩
  go_wp2_with fail
  go_ret
  have hb := HM.out.below
  exact ⟨rfl, ((hb.trans (HN.out.below.mono hb.size)).trans (HB3.out.mono (by have := HN.out.below.size; have := hb.size; omega))).trans (HB4.out.mono (by have := HB3.out.size; have := HN.out.below.size; have := hb.size; omega))⟩
theorem walk (a0 : Int) (a1 : Int) (a2 : Int) (w0 : (Lit.int .i64 a0).wf = true) (w1 : (Lit.int .i64 a1).wf = true) (w2 : (Lit.int .i64 a2).wf = true) (w : World) :
    Calls Tryz.prog 3 #[.int .i64 a0, .int .i64 a1, .int .i64 a2] w fun e w' => e = .returned (.bool true) ∧ Below w.heap.size w w' := by
  by_cases hd : a1 < 0
  · go_enter Tryz.func3, Tryz.ntmps3
    go_wp2_with fail
    go_ret
    exact ⟨rfl, Below.refl _ _⟩
  · by_cases h1 : a2 < 0
    · go_enter Tryz.func3, Tryz.ntmps3
      go_wp2_with fail
      go_ret
      exact ⟨rfl, Below.refl _ _⟩
    · by_cases h2 : 4096 < a2
      · go_enter Tryz.func3, Tryz.ntmps3
        go_wp2_with fail
        go_ret
        exact ⟨rfl, Below.refl _ _⟩
      · obtain ⟨k, rfl⟩ : ∃ k : Nat, a2 = k := ⟨a2.toNat, by omega⟩
        exact steps a0 a1 k hd (by omega) w

set_option maxRecDepth 100000 in
theorem lifted (os : Os) (started : os.Started) (H : Type) (enc : TypeId × Value → H) :
    ReturnsInHanded {} Tryz.checked os 3 .any (Rows.fnBranchExactCopySpec.pre6 enc Tryz.prog Tryz.f3 Rows.fnBranchExactCopyRow.domain false) (Rows.fnBranchExactCopySpec.post enc Tryz.prog Tryz.f3 false true false false) := by
  refine returnsInHanded_of_change (C := Tryz.checked) own started (by kernel_rfl) Tryz.func3
    (ChangeSpec.witness6 (enc := enc) (C := Tryz.checked) false ⟨#[], #[.int .i64 0, .int .i64 0, .int .i64 0], []⟩ 8 (by kernel_rfl) (by kernel_rfl) (by kernel_rfl) (by kernel_rfl)) ?_
  intro W base args ds gs before hval0 hW hcnd _
  have hval : ∀ (j : Nat) t v, Tryz.f3.params[j]? = some t → args[j]? = some v → Value.okWide Tryz.prog W .any base t v := hval0
  have hW' := hW
  obtain ⟨p, q, hA0, hV, rfl, hfz, hnd⟩ := hW
  have hA : DataW.TrodAll enc Tryz.prog W 0 (fun _ => true) true Tryz.f3.params.toList args.toList ds p := hA0
  rw [Tryz.params3] at hA hval
  obtain ⟨v0, vs0, d0, ds0, p0, q0, hargs, rfl, rfl, h0, r0⟩ := trodAll_cons hA
  obtain ⟨v1, vs1, d1, ds1, p1, q1, rfl, rfl, rfl, h1, r1⟩ := trodAll_cons r0
  obtain ⟨v2, vs2, d2, ds2, p2, q2, rfl, rfl, rfl, h2, r2⟩ := trodAll_cons r1
  obtain ⟨rfl, rfl, rfl⟩ := trodAll_nil r2
  obtain rfl : args = #[v0, v1, v2] := by cases args; simp_all
  obtain ⟨rfl, rfl⟩ := trodVars_none hV
  obtain ⟨a0, rfl, rfl, rfl, w0⟩ := open_int Tryz.underlying3 (hval 0 3 v0 rfl rfl) h0
  obtain ⟨a1, rfl, rfl, rfl, w1⟩ := open_int Tryz.underlying3 (hval 1 3 v1 rfl rfl) h1
  obtain ⟨a2, rfl, rfl, rfl, w2⟩ := open_int Tryz.underlying3 (hval 2 3 v2 rfl rfl) h2
  clear hA0 hval0
  simp only [List.append_nil] at hW'
  refine (walk a0 a1 a2 w0 w1 w2 W).mono fun e W' ⟨he, hg⟩ => ?_
  subst he
  exact ⟨_, rfl, _, _, _, [], [], [], hW', (trodAll_cons_mk (shut_bool Tryz.underlying4 _) trodAll_mk0), (trodAll_cons_mk (shut_int Tryz.underlying3 w0) (trodAll_cons_mk (shut_int Tryz.underlying3 w1) (trodAll_cons_mk (shut_int Tryz.underlying3 w2) trodAll_mk0))), rfl, hg.frame _, fun h => by cases h⟩

theorem over : Rows.fnBranchExactCopyRow.holds Tryz.pinned (OpenSpec.ofChange Rows.fnBranchExactCopySpec) :=
  OpenClaim.holds_of_wide 3 Tryz.f3 rfl rfl rfl rfl rfl rfl rfl ⟨rfl, rfl, rfl, rfl, rfl⟩ rfl rfl rfl rfl rfl (by kernel_rfl) Tryz.func3 (by kernel_rfl)
    (of_decide_eq_true (by kernel_rfl)) (by unfold Func.isWrapper; first | (rw [if_pos (by decide +kernel)]; kernel_rfl) | (rw [if_neg (by decide +kernel)]; exact ⟨rfl, rfl⟩))
    (fun os started H enc _ => lifted os started H enc)

theorem proved : Rows.FnBranchExactCopySaid :=
  over
#print axioms proved
end Go.Proofs.YtieeikddbdkehaaGreat.fnBranchExactCopy
