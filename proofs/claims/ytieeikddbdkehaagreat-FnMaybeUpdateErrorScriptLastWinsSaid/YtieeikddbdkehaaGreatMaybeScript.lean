/- Over a run of MaybeUpdateError at the start of input the last error wins where nothing deeper was recorded, and the first stays otherwise: n025_29.FnMaybeUpdateErrorScriptLastWins returns true for every input. Conditions: none on the input; the dump is cut with -reflectrows -leanrows. -/
import Derived.Test.YtieeikddbdkehaaGreatRows
import Derived.WalkKit
import Derived.ProofKit
import Derived.OpenShut
import Derived.ChangeOld
import Derived.Below
import Derived.Test.YtieeikddbdkehaaGreatCtxf
import Derived.ShutString
namespace Go.Proofs.YtieeikddbdkehaaGreat.fnMaybeUpdateErrorScriptLastWins
open Go.ChangeShapes Go.WideShapes Go.ChangeAt Go.RowKit
open Go.ChangeMaps (open_string shut_string)
set_option linter.unusedVariables false      -- a walk need not use every 'w<i>' (that an integer argument fits its kind)

theorem own : ownKnob Tryz.prog.godebug = none := by kernel_rfl

set_option maxHeartbeats 1000000 in
set_option maxRecDepth 100000 in
theorem zero (n : Nat) (hn : 1 ≤ n) (hn2 : n ≤ 4096) (w : World) :
    Calls Tryz.prog 5 #[.int .i64 0, .int .i64 n] w fun e w' => e = .returned (.bool true) ∧ Below w.heap.size w w' := by
  have hk1 : ¬ (4096 : Int) < (n : Int) := by omega
  have hk2 : ¬ (n : Int) < 1 := by omega
  go_enter Tryz.func5, Tryz.ntmps5
  go_wp2_with fail
  refine (mk_made _ 1 0 _ 0 (by omega)).mono ?_
  rintro e w1 ⟨B, E, v, rfl, hm⟩
  have HM := Lib.hid (Scr.of hm)
  clear hm
  go_wp2_with fail
  go_loopw [7, 8] (fun l i wr => ∃ j : Nat, ∃ L : Nat, j ≤ n ∧ i = .int .i64 j ∧ l = .pointer (some ⟨L, 0, none⟩) ∧ Hid (Scr w wr B L 0)) (fun _ i _ => n - (intOf i).toNat)
  case atStart => exact ⟨0, E, Nat.zero_le _, rfl, rfl, HM⟩
  case round =>
    obtain ⟨j, L, hj, rfl, rfl, HJ⟩ := hrel
    by_cases hlt : j < n
    · go_wp2_with fail
      refine (scr_same (HJ.out.alloc _) wr.heap.size).mono ?_
      rintro e w3 ⟨rfl, hm⟩
      have HT := Lib.hid hm
      clear hm
      go_wp2_with fail
      refine (scr_depth HT.out).mono ?_
      rintro e _ ⟨rfl, rfl⟩
      go_wp2_with fail
      exact ⟨⟨j + 1, wr.heap.size, by omega, by go_num, rfl, HT⟩, by simp [intOf]; omega⟩
    · go_wp2_with fail
      refine (scr_err HJ.out).mono ?_
      rintro e _ ⟨rfl, rfl⟩
      go_wp2_with fail
      refine (scr_same HJ.out L).mono ?_
      rintro e w3 ⟨rfl, hm⟩
      have HT := Lib.hid hm
      clear hm
      go_wp2_with fail
      refine (scr_err HT.out).mono ?_
      rintro e _ ⟨rfl, rfl⟩
      go_wp2_with fail
      refine (scr_depth HT.out).mono ?_
      rintro e _ ⟨rfl, rfl⟩
      go_wp2_with fail
      go_ret
      exact ⟨rfl, HT.out.below⟩
set_option maxHeartbeats 1000000 in
set_option maxRecDepth 100000 in
theorem deep (d : Int) (hd : 0 < d) (n : Nat) (hn : 1 ≤ n) (hn2 : n ≤ 4096) (w : World) :
    Calls Tryz.prog 5 #[.int .i64 d, .int .i64 n] w fun e w' => e = .returned (.bool true) ∧ Below w.heap.size w w' := by
  have hk1 : ¬ (4096 : Int) < (n : Int) := by omega
  have hk2 : ¬ (n : Int) < 1 := by omega
  have hd0 : ¬ d < 0 := by omega
  have hd1 : ¬ d = 0 := by omega
  go_enter Tryz.func5, Tryz.ntmps5
  go_wp2_with fail
  refine (mk_made _ 1 d _ 0 (by omega)).mono ?_
  rintro e w1 ⟨B, E, v, rfl, hm⟩
  have HM := Lib.hid (Scr.of hm)
  clear hm
  go_wp2_with fail
  go_loopw [7, 8] (fun l i wr => ∃ j : Nat, ∃ L : Nat, j ≤ n ∧ i = .int .i64 j ∧ l = .pointer (some ⟨L, 0, none⟩) ∧ Hid (Scr w wr B E d)) (fun _ i _ => n - (intOf i).toNat)
  case atStart => exact ⟨0, E, Nat.zero_le _, rfl, rfl, HM⟩
  case round =>
    obtain ⟨j, L, hj, rfl, rfl, HJ⟩ := hrel
    by_cases hlt : j < n
    · go_wp2_with fail
      refine (scr_keep (HJ.out.alloc _) hd wr.heap.size).mono ?_
      rintro e w3 ⟨rfl, hm⟩
      have HT := Lib.hid hm
      clear hm
      go_wp2_with fail
      refine (scr_depth HT.out).mono ?_
      rintro e _ ⟨rfl, rfl⟩
      go_wp2_with fail
      exact ⟨⟨j + 1, wr.heap.size, by omega, by go_num, rfl, HT⟩, by simp [intOf]; omega⟩
    · go_wp2_with fail
      refine (scr_err HJ.out).mono ?_
      rintro e _ ⟨rfl, rfl⟩
      go_wp2_with fail
      refine (scr_keep HJ.out hd E).mono ?_
      rintro e w3 ⟨rfl, hm⟩
      have HT := Lib.hid hm
      clear hm
      go_wp2_with fail
      refine (scr_err HT.out).mono ?_
      rintro e _ ⟨rfl, rfl⟩
      go_wp2_with fail
      refine (scr_depth HT.out).mono ?_
      rintro e _ ⟨rfl, rfl⟩
      go_wp2_with fail
      go_ret
      exact ⟨rfl, HT.out.below⟩
theorem walk (a0 : Int) (a1 : Int) (w0 : (Lit.int .i64 a0).wf = true) (w1 : (Lit.int .i64 a1).wf = true) (w : World) :
    Calls Tryz.prog 5 #[.int .i64 a0, .int .i64 a1] w fun e w' => e = .returned (.bool true) ∧ Below w.heap.size w w' := by
  by_cases h1 : a0 < 0
  · go_enter Tryz.func5, Tryz.ntmps5
    go_wp2_with fail
    go_ret
    exact ⟨rfl, Below.refl _ _⟩
  by_cases h2 : a1 < 1
  · go_enter Tryz.func5, Tryz.ntmps5
    go_wp2_with fail
    go_ret
    exact ⟨rfl, Below.refl _ _⟩
  by_cases h5 : 4096 < a1
  · go_enter Tryz.func5, Tryz.ntmps5
    go_wp2_with fail
    go_ret
    exact ⟨rfl, Below.refl _ _⟩
  obtain ⟨k, rfl⟩ : ∃ k : Nat, a1 = k := ⟨a1.toNat, by omega⟩
  by_cases h0 : a0 = 0
  · subst h0
    exact zero k (by omega) (by omega) w
  · exact deep a0 (by omega) k (by omega) (by omega) w

set_option maxRecDepth 100000 in
theorem lifted (os : Os) (started : os.Started) (H : Type) (enc : TypeId × Value → H) :
    ReturnsInHanded {} Tryz.checked os 5 .any (Rows.fnMaybeUpdateErrorScriptLastWinsSpec.pre6 enc Tryz.prog Tryz.f5 Rows.fnMaybeUpdateErrorScriptLastWinsRow.domain false) (Rows.fnMaybeUpdateErrorScriptLastWinsSpec.post enc Tryz.prog Tryz.f5 false true false false) := by
  refine returnsInHanded_of_change (C := Tryz.checked) own started (by kernel_rfl) Tryz.func5
    (ChangeSpec.witness6 (enc := enc) (C := Tryz.checked) false ⟨#[], #[.int .i64 0, .int .i64 0], []⟩ 8 (by kernel_rfl) (by kernel_rfl) (by kernel_rfl) (by kernel_rfl)) ?_
  intro W base args ds gs before hval0 hW hcnd _
  have hval : ∀ (j : Nat) t v, Tryz.f5.params[j]? = some t → args[j]? = some v → Value.okWide Tryz.prog W .any base t v := hval0
  have hW' := hW
  obtain ⟨p, q, hA0, hV, rfl, hfz, hnd⟩ := hW
  have hA : DataW.TrodAll enc Tryz.prog W 0 (fun _ => true) true Tryz.f5.params.toList args.toList ds p := hA0
  rw [Tryz.params5] at hA hval
  obtain ⟨v0, vs0, d0, ds0, p0, q0, hargs, rfl, rfl, h0, r0⟩ := trodAll_cons hA
  obtain ⟨v1, vs1, d1, ds1, p1, q1, rfl, rfl, rfl, h1, r1⟩ := trodAll_cons r0
  obtain ⟨rfl, rfl, rfl⟩ := trodAll_nil r1
  obtain rfl : args = #[v0, v1] := by cases args; simp_all
  obtain ⟨rfl, rfl⟩ := trodVars_none hV
  obtain ⟨a0, rfl, rfl, rfl, w0⟩ := open_int Tryz.underlying3 (hval 0 3 v0 rfl rfl) h0
  obtain ⟨a1, rfl, rfl, rfl, w1⟩ := open_int Tryz.underlying3 (hval 1 3 v1 rfl rfl) h1
  clear hA0 hval0
  simp only [List.append_nil] at hW'
  refine (walk a0 a1 w0 w1 W).mono fun e W' ⟨he, hg⟩ => ?_
  subst he
  exact ⟨_, rfl, _, _, _, [], [], [], hW', (trodAll_cons_mk (shut_bool Tryz.underlying4 _) trodAll_mk0), (trodAll_cons_mk (shut_int Tryz.underlying3 w0) (trodAll_cons_mk (shut_int Tryz.underlying3 w1) trodAll_mk0)), rfl, hg.frame _, fun h => by cases h⟩

theorem over : Rows.fnMaybeUpdateErrorScriptLastWinsRow.holds Tryz.pinned (OpenSpec.ofChange Rows.fnMaybeUpdateErrorScriptLastWinsSpec) :=
  OpenClaim.holds_of_wide 5 Tryz.f5 rfl rfl rfl rfl rfl rfl rfl ⟨rfl, rfl, rfl, rfl, rfl⟩ rfl rfl rfl rfl rfl (by kernel_rfl) Tryz.func5 (by kernel_rfl)
    (of_decide_eq_true (by kernel_rfl)) (by unfold Func.isWrapper; first | (rw [if_pos (by decide +kernel)]; kernel_rfl) | (rw [if_neg (by decide +kernel)]; exact ⟨rfl, rfl⟩))
    (fun os started H enc _ => lifted os started H enc)

theorem proved : Rows.FnMaybeUpdateErrorScriptLastWinsSaid :=
  over
#print axioms proved
end Go.Proofs.YtieeikddbdkehaaGreat.fnMaybeUpdateErrorScriptLastWins
