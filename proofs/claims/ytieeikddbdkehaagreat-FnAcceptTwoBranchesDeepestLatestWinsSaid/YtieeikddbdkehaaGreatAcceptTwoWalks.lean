/- The walks of the law: Accepting two branches in turn adds all captures and keeps the error of the last party at the greatest depth: n025_29.FnAcceptTwoBranchesDeepestLatestWins returns true for every input. Conditions: none on the input; the dump is cut with -reflectrows -leanrows. -/
import Derived.Test.YtieeikddbdkehaaGreatCtxg
import Derived.ProofKit
import Derived.Below
namespace Go.Proofs.YtieeikddbdkehaaGreat.fnAcceptTwoBranchesDeepestLatestWins
open Go.ChangeShapes Go.WideShapes Go.ChangeAt Go.RowKit
set_option linter.unusedVariables false
set_option maxHeartbeats 1000000 in
set_option maxRecDepth 100000 in
theorem uu (a0 a1 a2 : Int) (h0 : ¬ a0 < 0) (h1 : ¬ a1 < 0) (h : a0 < a1) (h2 : ¬ a2 < 0) (g : a1 < a2) (k0 k1 k2 : Nat) (hk0 : k0 ≤ 4096) (hk1 : k1 ≤ 4096) (hk2 : k2 ≤ 4096) (w : World) :
    Calls Tryz.prog 7 #[.int .i64 a0, .int .i64 a1, .int .i64 a2, .int .i64 k0, .int .i64 k1, .int .i64 k2] w fun e w' => e = .returned (.bool true) ∧ Below w.heap.size w w' := by
  have hq0 : ¬ (4096 : Int) < (k0 : Int) := by omega
  have hq1 : ¬ (4096 : Int) < (k1 : Int) := by omega
  have hq2 : ¬ (4096 : Int) < (k2 : Int) := by omega
  go_enter Tryz.func7, Tryz.ntmps7
  go_wp2_with fail
  refine (mk_made _ 1 a0 _ k0 (by omega)).mono ?_
  rintro e w1 ⟨B, E, v, rfl, hm⟩
  have HM := Lib.hid hm
  clear hm
  go_wp2_with fail
  refine (br_two' HM.out a1 _ k1 (by omega)).mono ?_
  rintro e w2 ⟨B1, E1, v1, rfl, hm⟩
  have HN := Lib.hid hm
  clear hm
  go_wp2_with fail
  refine (br_three HN.out.1 HN.out.2 a2 _ k2 (by omega)).mono ?_
  rintro e w3 ⟨B2, E2, v2, rfl, hm⟩
  have HT := Lib.hid hm
  clear hm HN HM
  go_wp2_with fail
  refine (one_take HT.out (by omega) (by omega)).mono ?_
  rintro e w4 ⟨rfl, v3, hm⟩
  have H4 := Lib.hid hm
  clear hm HT
  go_wp2_with fail
  refine (two_take H4.out (by omega) (by omega)).mono ?_
  rintro e w5 ⟨rfl, v4, hm⟩
  have H5 := Lib.hid hm
  clear hm H4
  go_wp2_with fail
  refine (depthOf _ B _ _ _ _ H5.out.rc.ctx).mono ?_
  rintro e _ ⟨rfl, rfl⟩
  go_wp2_with fail
  refine (len_rec H5.out.rc).mono ?_
  rintro e _ ⟨rfl, rfl⟩
  go_wp2_with fail
  refine (len_of H5.out.len1).mono ?_
  rintro e _ ⟨rfl, rfl⟩
  go_wp2_with fail
  refine (len_of H5.out.len2).mono ?_
  rintro e _ ⟨rfl, rfl⟩
  go_wp2_with fail
  refine (errIs_same _ B _ _ _ _ H5.out.rc.ctx).mono ?_
  rintro e _ ⟨rfl, rfl⟩
  go_wp2_with fail
  go_ret
  exact ⟨rfl, H5.out.below⟩
set_option maxHeartbeats 1000000 in
set_option maxRecDepth 100000 in
theorem us (a0 a1 : Int) (h0 : ¬ a0 < 0) (h1 : ¬ a1 < 0) (h : a0 < a1) (k0 k1 k2 : Nat) (hk0 : k0 ≤ 4096) (hk1 : k1 ≤ 4096) (hk2 : k2 ≤ 4096) (w : World) :
    Calls Tryz.prog 7 #[.int .i64 a0, .int .i64 a1, .int .i64 a1, .int .i64 k0, .int .i64 k1, .int .i64 k2] w fun e w' => e = .returned (.bool true) ∧ Below w.heap.size w w' := by
  have hq0 : ¬ (4096 : Int) < (k0 : Int) := by omega
  have hq1 : ¬ (4096 : Int) < (k1 : Int) := by omega
  have hq2 : ¬ (4096 : Int) < (k2 : Int) := by omega
  go_enter Tryz.func7, Tryz.ntmps7
  go_wp2_with fail
  refine (mk_made _ 1 a0 _ k0 (by omega)).mono ?_
  rintro e w1 ⟨B, E, v, rfl, hm⟩
  have HM := Lib.hid hm
  clear hm
  go_wp2_with fail
  refine (br_two' HM.out a1 _ k1 (by omega)).mono ?_
  rintro e w2 ⟨B1, E1, v1, rfl, hm⟩
  have HN := Lib.hid hm
  clear hm
  go_wp2_with fail
  refine (br_three HN.out.1 HN.out.2 a1 _ k2 (by omega)).mono ?_
  rintro e w3 ⟨B2, E2, v2, rfl, hm⟩
  have HT := Lib.hid hm
  clear hm HN HM
  go_wp2_with fail
  refine (one_take HT.out (by omega) (by omega)).mono ?_
  rintro e w4 ⟨rfl, v3, hm⟩
  have H4 := Lib.hid hm
  clear hm HT
  go_wp2_with fail
  refine (two_take H4.out (by omega) (by omega)).mono ?_
  rintro e w5 ⟨rfl, v4, hm⟩
  have H5 := Lib.hid hm
  clear hm H4
  go_wp2_with fail
  refine (depthOf _ B _ _ _ _ H5.out.rc.ctx).mono ?_
  rintro e _ ⟨rfl, rfl⟩
  go_wp2_with fail
  refine (len_rec H5.out.rc).mono ?_
  rintro e _ ⟨rfl, rfl⟩
  go_wp2_with fail
  refine (len_of H5.out.len1).mono ?_
  rintro e _ ⟨rfl, rfl⟩
  go_wp2_with fail
  refine (len_of H5.out.len2).mono ?_
  rintro e _ ⟨rfl, rfl⟩
  go_wp2_with fail
  refine (errIs_same _ B _ _ _ _ H5.out.rc.ctx).mono ?_
  rintro e _ ⟨rfl, rfl⟩
  go_wp2_with fail
  go_ret
  exact ⟨rfl, H5.out.below⟩
set_option maxHeartbeats 1000000 in
set_option maxRecDepth 100000 in
theorem uk (a0 a1 a2 : Int) (h0 : ¬ a0 < 0) (h1 : ¬ a1 < 0) (h : a0 < a1) (h2 : ¬ a2 < 0) (g : a2 < a1) (k0 k1 k2 : Nat) (hk0 : k0 ≤ 4096) (hk1 : k1 ≤ 4096) (hk2 : k2 ≤ 4096) (w : World) :
    Calls Tryz.prog 7 #[.int .i64 a0, .int .i64 a1, .int .i64 a2, .int .i64 k0, .int .i64 k1, .int .i64 k2] w fun e w' => e = .returned (.bool true) ∧ Below w.heap.size w w' := by
  have hq0 : ¬ (4096 : Int) < (k0 : Int) := by omega
  have hq1 : ¬ (4096 : Int) < (k1 : Int) := by omega
  have hq2 : ¬ (4096 : Int) < (k2 : Int) := by omega
  go_enter Tryz.func7, Tryz.ntmps7
  go_wp2_with fail
  refine (mk_made _ 1 a0 _ k0 (by omega)).mono ?_
  rintro e w1 ⟨B, E, v, rfl, hm⟩
  have HM := Lib.hid hm
  clear hm
  go_wp2_with fail
  refine (br_two' HM.out a1 _ k1 (by omega)).mono ?_
  rintro e w2 ⟨B1, E1, v1, rfl, hm⟩
  have HN := Lib.hid hm
  clear hm
  go_wp2_with fail
  refine (br_three HN.out.1 HN.out.2 a2 _ k2 (by omega)).mono ?_
  rintro e w3 ⟨B2, E2, v2, rfl, hm⟩
  have HT := Lib.hid hm
  clear hm HN HM
  go_wp2_with fail
  refine (one_take HT.out (by omega) (by omega)).mono ?_
  rintro e w4 ⟨rfl, v3, hm⟩
  have H4 := Lib.hid hm
  clear hm HT
  go_wp2_with fail
  refine (two_keep H4.out (by omega) (by omega)).mono ?_
  rintro e w5 ⟨rfl, v4, hm⟩
  have H5 := Lib.hid hm
  clear hm H4
  go_wp2_with fail
  refine (depthOf _ B _ _ _ _ H5.out.rc.ctx).mono ?_
  rintro e _ ⟨rfl, rfl⟩
  go_wp2_with fail
  refine (len_rec H5.out.rc).mono ?_
  rintro e _ ⟨rfl, rfl⟩
  go_wp2_with fail
  refine (len_of H5.out.len1).mono ?_
  rintro e _ ⟨rfl, rfl⟩
  go_wp2_with fail
  refine (len_of H5.out.len2).mono ?_
  rintro e _ ⟨rfl, rfl⟩
  go_wp2_with fail
  refine (errIs_same _ B _ _ _ _ H5.out.rc.ctx).mono ?_
  rintro e _ ⟨rfl, rfl⟩
  go_wp2_with fail
  go_ret
  exact ⟨rfl, H5.out.below⟩
set_option maxHeartbeats 1000000 in
set_option maxRecDepth 100000 in
theorem su (a0 a2 : Int) (h0 : ¬ a0 < 0) (h2 : ¬ a2 < 0) (g : a0 < a2) (k0 k1 k2 : Nat) (hk0 : k0 ≤ 4096) (hk1 : k1 ≤ 4096) (hk2 : k2 ≤ 4096) (w : World) :
    Calls Tryz.prog 7 #[.int .i64 a0, .int .i64 a0, .int .i64 a2, .int .i64 k0, .int .i64 k1, .int .i64 k2] w fun e w' => e = .returned (.bool true) ∧ Below w.heap.size w w' := by
  have hq0 : ¬ (4096 : Int) < (k0 : Int) := by omega
  have hq1 : ¬ (4096 : Int) < (k1 : Int) := by omega
  have hq2 : ¬ (4096 : Int) < (k2 : Int) := by omega
  go_enter Tryz.func7, Tryz.ntmps7
  go_wp2_with fail
  refine (mk_made _ 1 a0 _ k0 (by omega)).mono ?_
  rintro e w1 ⟨B, E, v, rfl, hm⟩
  have HM := Lib.hid hm
  clear hm
  go_wp2_with fail
  refine (br_two' HM.out a0 _ k1 (by omega)).mono ?_
  rintro e w2 ⟨B1, E1, v1, rfl, hm⟩
  have HN := Lib.hid hm
  clear hm
  go_wp2_with fail
  refine (br_three HN.out.1 HN.out.2 a2 _ k2 (by omega)).mono ?_
  rintro e w3 ⟨B2, E2, v2, rfl, hm⟩
  have HT := Lib.hid hm
  clear hm HN HM
  go_wp2_with fail
  refine (one_take HT.out (by omega) (by omega)).mono ?_
  rintro e w4 ⟨rfl, v3, hm⟩
  have H4 := Lib.hid hm
  clear hm HT
  go_wp2_with fail
  refine (two_take H4.out (by omega) (by omega)).mono ?_
  rintro e w5 ⟨rfl, v4, hm⟩
  have H5 := Lib.hid hm
  clear hm H4
  go_wp2_with fail
  refine (depthOf _ B _ _ _ _ H5.out.rc.ctx).mono ?_
  rintro e _ ⟨rfl, rfl⟩
  go_wp2_with fail
  refine (len_rec H5.out.rc).mono ?_
  rintro e _ ⟨rfl, rfl⟩
  go_wp2_with fail
  refine (len_of H5.out.len1).mono ?_
  rintro e _ ⟨rfl, rfl⟩
  go_wp2_with fail
  refine (len_of H5.out.len2).mono ?_
  rintro e _ ⟨rfl, rfl⟩
  go_wp2_with fail
  refine (errIs_same _ B _ _ _ _ H5.out.rc.ctx).mono ?_
  rintro e _ ⟨rfl, rfl⟩
  go_wp2_with fail
  go_ret
  exact ⟨rfl, H5.out.below⟩
set_option maxHeartbeats 1000000 in
set_option maxRecDepth 100000 in
theorem ss (a0 : Int) (h0 : ¬ a0 < 0) (k0 k1 k2 : Nat) (hk0 : k0 ≤ 4096) (hk1 : k1 ≤ 4096) (hk2 : k2 ≤ 4096) (w : World) :
    Calls Tryz.prog 7 #[.int .i64 a0, .int .i64 a0, .int .i64 a0, .int .i64 k0, .int .i64 k1, .int .i64 k2] w fun e w' => e = .returned (.bool true) ∧ Below w.heap.size w w' := by
  have hq0 : ¬ (4096 : Int) < (k0 : Int) := by omega
  have hq1 : ¬ (4096 : Int) < (k1 : Int) := by omega
  have hq2 : ¬ (4096 : Int) < (k2 : Int) := by omega
  go_enter Tryz.func7, Tryz.ntmps7
  go_wp2_with fail
  refine (mk_made _ 1 a0 _ k0 (by omega)).mono ?_
  rintro e w1 ⟨B, E, v, rfl, hm⟩
  have HM := Lib.hid hm
  clear hm
  go_wp2_with fail
  refine (br_two' HM.out a0 _ k1 (by omega)).mono ?_
  rintro e w2 ⟨B1, E1, v1, rfl, hm⟩
  have HN := Lib.hid hm
  clear hm
  go_wp2_with fail
  refine (br_three HN.out.1 HN.out.2 a0 _ k2 (by omega)).mono ?_
  rintro e w3 ⟨B2, E2, v2, rfl, hm⟩
  have HT := Lib.hid hm
  clear hm HN HM
  go_wp2_with fail
  refine (one_take HT.out (by omega) (by omega)).mono ?_
  rintro e w4 ⟨rfl, v3, hm⟩
  have H4 := Lib.hid hm
  clear hm HT
  go_wp2_with fail
  refine (two_take H4.out (by omega) (by omega)).mono ?_
  rintro e w5 ⟨rfl, v4, hm⟩
  have H5 := Lib.hid hm
  clear hm H4
  go_wp2_with fail
  refine (depthOf _ B _ _ _ _ H5.out.rc.ctx).mono ?_
  rintro e _ ⟨rfl, rfl⟩
  go_wp2_with fail
  refine (len_rec H5.out.rc).mono ?_
  rintro e _ ⟨rfl, rfl⟩
  go_wp2_with fail
  refine (len_of H5.out.len1).mono ?_
  rintro e _ ⟨rfl, rfl⟩
  go_wp2_with fail
  refine (len_of H5.out.len2).mono ?_
  rintro e _ ⟨rfl, rfl⟩
  go_wp2_with fail
  refine (errIs_same _ B _ _ _ _ H5.out.rc.ctx).mono ?_
  rintro e _ ⟨rfl, rfl⟩
  go_wp2_with fail
  go_ret
  exact ⟨rfl, H5.out.below⟩
set_option maxHeartbeats 1000000 in
set_option maxRecDepth 100000 in
theorem sk (a0 a2 : Int) (h0 : ¬ a0 < 0) (h2 : ¬ a2 < 0) (g : a2 < a0) (k0 k1 k2 : Nat) (hk0 : k0 ≤ 4096) (hk1 : k1 ≤ 4096) (hk2 : k2 ≤ 4096) (w : World) :
    Calls Tryz.prog 7 #[.int .i64 a0, .int .i64 a0, .int .i64 a2, .int .i64 k0, .int .i64 k1, .int .i64 k2] w fun e w' => e = .returned (.bool true) ∧ Below w.heap.size w w' := by
  have hq0 : ¬ (4096 : Int) < (k0 : Int) := by omega
  have hq1 : ¬ (4096 : Int) < (k1 : Int) := by omega
  have hq2 : ¬ (4096 : Int) < (k2 : Int) := by omega
  go_enter Tryz.func7, Tryz.ntmps7
  go_wp2_with fail
  refine (mk_made _ 1 a0 _ k0 (by omega)).mono ?_
  rintro e w1 ⟨B, E, v, rfl, hm⟩
  have HM := Lib.hid hm
  clear hm
  go_wp2_with fail
  refine (br_two' HM.out a0 _ k1 (by omega)).mono ?_
  rintro e w2 ⟨B1, E1, v1, rfl, hm⟩
  have HN := Lib.hid hm
  clear hm
  go_wp2_with fail
  refine (br_three HN.out.1 HN.out.2 a2 _ k2 (by omega)).mono ?_
  rintro e w3 ⟨B2, E2, v2, rfl, hm⟩
  have HT := Lib.hid hm
  clear hm HN HM
  go_wp2_with fail
  refine (one_take HT.out (by omega) (by omega)).mono ?_
  rintro e w4 ⟨rfl, v3, hm⟩
  have H4 := Lib.hid hm
  clear hm HT
  go_wp2_with fail
  refine (two_keep H4.out (by omega) (by omega)).mono ?_
  rintro e w5 ⟨rfl, v4, hm⟩
  have H5 := Lib.hid hm
  clear hm H4
  go_wp2_with fail
  refine (depthOf _ B _ _ _ _ H5.out.rc.ctx).mono ?_
  rintro e _ ⟨rfl, rfl⟩
  go_wp2_with fail
  refine (len_rec H5.out.rc).mono ?_
  rintro e _ ⟨rfl, rfl⟩
  go_wp2_with fail
  refine (len_of H5.out.len1).mono ?_
  rintro e _ ⟨rfl, rfl⟩
  go_wp2_with fail
  refine (len_of H5.out.len2).mono ?_
  rintro e _ ⟨rfl, rfl⟩
  go_wp2_with fail
  refine (errIs_same _ B _ _ _ _ H5.out.rc.ctx).mono ?_
  rintro e _ ⟨rfl, rfl⟩
  go_wp2_with fail
  go_ret
  exact ⟨rfl, H5.out.below⟩
set_option maxHeartbeats 1000000 in
set_option maxRecDepth 100000 in
theorem ku (a0 a1 a2 : Int) (h0 : ¬ a0 < 0) (h1 : ¬ a1 < 0) (h : a1 < a0) (h2 : ¬ a2 < 0) (g : a0 < a2) (k0 k1 k2 : Nat) (hk0 : k0 ≤ 4096) (hk1 : k1 ≤ 4096) (hk2 : k2 ≤ 4096) (w : World) :
    Calls Tryz.prog 7 #[.int .i64 a0, .int .i64 a1, .int .i64 a2, .int .i64 k0, .int .i64 k1, .int .i64 k2] w fun e w' => e = .returned (.bool true) ∧ Below w.heap.size w w' := by
  have hq0 : ¬ (4096 : Int) < (k0 : Int) := by omega
  have hq1 : ¬ (4096 : Int) < (k1 : Int) := by omega
  have hq2 : ¬ (4096 : Int) < (k2 : Int) := by omega
  go_enter Tryz.func7, Tryz.ntmps7
  go_wp2_with fail
  refine (mk_made _ 1 a0 _ k0 (by omega)).mono ?_
  rintro e w1 ⟨B, E, v, rfl, hm⟩
  have HM := Lib.hid hm
  clear hm
  go_wp2_with fail
  refine (br_two' HM.out a1 _ k1 (by omega)).mono ?_
  rintro e w2 ⟨B1, E1, v1, rfl, hm⟩
  have HN := Lib.hid hm
  clear hm
  go_wp2_with fail
  refine (br_three HN.out.1 HN.out.2 a2 _ k2 (by omega)).mono ?_
  rintro e w3 ⟨B2, E2, v2, rfl, hm⟩
  have HT := Lib.hid hm
  clear hm HN HM
  go_wp2_with fail
  refine (one_keep HT.out (by omega) (by omega)).mono ?_
  rintro e w4 ⟨rfl, v3, hm⟩
  have H4 := Lib.hid hm
  clear hm HT
  go_wp2_with fail
  refine (two_take H4.out (by omega) (by omega)).mono ?_
  rintro e w5 ⟨rfl, v4, hm⟩
  have H5 := Lib.hid hm
  clear hm H4
  go_wp2_with fail
  refine (depthOf _ B _ _ _ _ H5.out.rc.ctx).mono ?_
  rintro e _ ⟨rfl, rfl⟩
  go_wp2_with fail
  refine (len_rec H5.out.rc).mono ?_
  rintro e _ ⟨rfl, rfl⟩
  go_wp2_with fail
  refine (len_of H5.out.len1).mono ?_
  rintro e _ ⟨rfl, rfl⟩
  go_wp2_with fail
  refine (len_of H5.out.len2).mono ?_
  rintro e _ ⟨rfl, rfl⟩
  go_wp2_with fail
  refine (errIs_same _ B _ _ _ _ H5.out.rc.ctx).mono ?_
  rintro e _ ⟨rfl, rfl⟩
  go_wp2_with fail
  go_ret
  exact ⟨rfl, H5.out.below⟩
set_option maxHeartbeats 1000000 in
set_option maxRecDepth 100000 in
theorem ks (a0 a1 : Int) (h0 : ¬ a0 < 0) (h1 : ¬ a1 < 0) (h : a1 < a0) (k0 k1 k2 : Nat) (hk0 : k0 ≤ 4096) (hk1 : k1 ≤ 4096) (hk2 : k2 ≤ 4096) (w : World) :
    Calls Tryz.prog 7 #[.int .i64 a0, .int .i64 a1, .int .i64 a0, .int .i64 k0, .int .i64 k1, .int .i64 k2] w fun e w' => e = .returned (.bool true) ∧ Below w.heap.size w w' := by
  have hq0 : ¬ (4096 : Int) < (k0 : Int) := by omega
  have hq1 : ¬ (4096 : Int) < (k1 : Int) := by omega
  have hq2 : ¬ (4096 : Int) < (k2 : Int) := by omega
  go_enter Tryz.func7, Tryz.ntmps7
  go_wp2_with fail
  refine (mk_made _ 1 a0 _ k0 (by omega)).mono ?_
  rintro e w1 ⟨B, E, v, rfl, hm⟩
  have HM := Lib.hid hm
  clear hm
  go_wp2_with fail
  refine (br_two' HM.out a1 _ k1 (by omega)).mono ?_
  rintro e w2 ⟨B1, E1, v1, rfl, hm⟩
  have HN := Lib.hid hm
  clear hm
  go_wp2_with fail
  refine (br_three HN.out.1 HN.out.2 a0 _ k2 (by omega)).mono ?_
  rintro e w3 ⟨B2, E2, v2, rfl, hm⟩
  have HT := Lib.hid hm
  clear hm HN HM
  go_wp2_with fail
  refine (one_keep HT.out (by omega) (by omega)).mono ?_
  rintro e w4 ⟨rfl, v3, hm⟩
  have H4 := Lib.hid hm
  clear hm HT
  go_wp2_with fail
  refine (two_take H4.out (by omega) (by omega)).mono ?_
  rintro e w5 ⟨rfl, v4, hm⟩
  have H5 := Lib.hid hm
  clear hm H4
  go_wp2_with fail
  refine (depthOf _ B _ _ _ _ H5.out.rc.ctx).mono ?_
  rintro e _ ⟨rfl, rfl⟩
  go_wp2_with fail
  refine (len_rec H5.out.rc).mono ?_
  rintro e _ ⟨rfl, rfl⟩
  go_wp2_with fail
  refine (len_of H5.out.len1).mono ?_
  rintro e _ ⟨rfl, rfl⟩
  go_wp2_with fail
  refine (len_of H5.out.len2).mono ?_
  rintro e _ ⟨rfl, rfl⟩
  go_wp2_with fail
  refine (errIs_same _ B _ _ _ _ H5.out.rc.ctx).mono ?_
  rintro e _ ⟨rfl, rfl⟩
  go_wp2_with fail
  go_ret
  exact ⟨rfl, H5.out.below⟩
set_option maxHeartbeats 1000000 in
set_option maxRecDepth 100000 in
theorem kk (a0 a1 a2 : Int) (h0 : ¬ a0 < 0) (h1 : ¬ a1 < 0) (h : a1 < a0) (h2 : ¬ a2 < 0) (g : a2 < a0) (k0 k1 k2 : Nat) (hk0 : k0 ≤ 4096) (hk1 : k1 ≤ 4096) (hk2 : k2 ≤ 4096) (w : World) :
    Calls Tryz.prog 7 #[.int .i64 a0, .int .i64 a1, .int .i64 a2, .int .i64 k0, .int .i64 k1, .int .i64 k2] w fun e w' => e = .returned (.bool true) ∧ Below w.heap.size w w' := by
  have hq0 : ¬ (4096 : Int) < (k0 : Int) := by omega
  have hq1 : ¬ (4096 : Int) < (k1 : Int) := by omega
  have hq2 : ¬ (4096 : Int) < (k2 : Int) := by omega
  go_enter Tryz.func7, Tryz.ntmps7
  go_wp2_with fail
  refine (mk_made _ 1 a0 _ k0 (by omega)).mono ?_
  rintro e w1 ⟨B, E, v, rfl, hm⟩
  have HM := Lib.hid hm
  clear hm
  go_wp2_with fail
  refine (br_two' HM.out a1 _ k1 (by omega)).mono ?_
  rintro e w2 ⟨B1, E1, v1, rfl, hm⟩
  have HN := Lib.hid hm
  clear hm
  go_wp2_with fail
  refine (br_three HN.out.1 HN.out.2 a2 _ k2 (by omega)).mono ?_
  rintro e w3 ⟨B2, E2, v2, rfl, hm⟩
  have HT := Lib.hid hm
  clear hm HN HM
  go_wp2_with fail
  refine (one_keep HT.out (by omega) (by omega)).mono ?_
  rintro e w4 ⟨rfl, v3, hm⟩
  have H4 := Lib.hid hm
  clear hm HT
  go_wp2_with fail
  refine (two_keep H4.out (by omega) (by omega)).mono ?_
  rintro e w5 ⟨rfl, v4, hm⟩
  have H5 := Lib.hid hm
  clear hm H4
  go_wp2_with fail
  refine (depthOf _ B _ _ _ _ H5.out.rc.ctx).mono ?_
  rintro e _ ⟨rfl, rfl⟩
  go_wp2_with fail
  refine (len_rec H5.out.rc).mono ?_
  rintro e _ ⟨rfl, rfl⟩
  go_wp2_with fail
  refine (len_of H5.out.len1).mono ?_
  rintro e _ ⟨rfl, rfl⟩
  go_wp2_with fail
  refine (len_of H5.out.len2).mono ?_
  rintro e _ ⟨rfl, rfl⟩
  go_wp2_with fail
  refine (errIs_same _ B _ _ _ _ H5.out.rc.ctx).mono ?_
  rintro e _ ⟨rfl, rfl⟩
  go_wp2_with fail
  go_ret
  exact ⟨rfl, H5.out.below⟩
theorem walk (a0 : Int) (a1 : Int) (a2 : Int) (a3 : Int) (a4 : Int) (a5 : Int) (w0 : (Lit.int .i64 a0).wf = true) (w1 : (Lit.int .i64 a1).wf = true) (w2 : (Lit.int .i64 a2).wf = true) (w3 : (Lit.int .i64 a3).wf = true) (w4 : (Lit.int .i64 a4).wf = true) (w5 : (Lit.int .i64 a5).wf = true) (w : World) :
    Calls Tryz.prog 7 #[.int .i64 a0, .int .i64 a1, .int .i64 a2, .int .i64 a3, .int .i64 a4, .int .i64 a5] w fun e w' => e = .returned (.bool true) ∧ Below w.heap.size w w' := by
  by_cases h0 : a0 < 0
  · go_enter Tryz.func7, Tryz.ntmps7
    go_wp2_with fail
    go_ret
    exact ⟨rfl, Below.refl _ _⟩
  by_cases h1 : a1 < 0
  · go_enter Tryz.func7, Tryz.ntmps7
    go_wp2_with fail
    go_ret
    exact ⟨rfl, Below.refl _ _⟩
  by_cases h2 : a2 < 0
  · go_enter Tryz.func7, Tryz.ntmps7
    go_wp2_with fail
    go_ret
    exact ⟨rfl, Below.refl _ _⟩
  by_cases h3 : a3 < 0
  · go_enter Tryz.func7, Tryz.ntmps7
    go_wp2_with fail
    go_ret
    exact ⟨rfl, Below.refl _ _⟩
  by_cases h3b : 4096 < a3
  · go_enter Tryz.func7, Tryz.ntmps7
    go_wp2_with fail
    go_ret
    exact ⟨rfl, Below.refl _ _⟩
  by_cases h4 : a4 < 0
  · go_enter Tryz.func7, Tryz.ntmps7
    go_wp2_with fail
    go_ret
    exact ⟨rfl, Below.refl _ _⟩
  by_cases h4b : 4096 < a4
  · go_enter Tryz.func7, Tryz.ntmps7
    go_wp2_with fail
    go_ret
    exact ⟨rfl, Below.refl _ _⟩
  by_cases h5 : a5 < 0
  · go_enter Tryz.func7, Tryz.ntmps7
    go_wp2_with fail
    go_ret
    exact ⟨rfl, Below.refl _ _⟩
  by_cases h5b : 4096 < a5
  · go_enter Tryz.func7, Tryz.ntmps7
    go_wp2_with fail
    go_ret
    exact ⟨rfl, Below.refl _ _⟩
  obtain ⟨k0, rfl⟩ : ∃ k : Nat, a3 = k := ⟨a3.toNat, by omega⟩
  obtain ⟨k1, rfl⟩ : ∃ k : Nat, a4 = k := ⟨a4.toNat, by omega⟩
  obtain ⟨k2, rfl⟩ : ∃ k : Nat, a5 = k := ⟨a5.toNat, by omega⟩
  have q0 : k0 ≤ 4096 := by omega
  have q1 : k1 ≤ 4096 := by omega
  have q2 : k2 ≤ 4096 := by omega
  rcases Int.lt_trichotomy a0 a1 with h | h | h
  · rcases Int.lt_trichotomy a1 a2 with g | g | g
    · exact uu a0 a1 a2 h0 h1 h h2 g k0 k1 k2 q0 q1 q2 w
    · subst g
      exact us a0 a1 h0 h1 h k0 k1 k2 q0 q1 q2 w
    · exact uk a0 a1 a2 h0 h1 h h2 g k0 k1 k2 q0 q1 q2 w
  · subst h
    rcases Int.lt_trichotomy a0 a2 with g | g | g
    · exact su a0 a2 h0 h2 g k0 k1 k2 q0 q1 q2 w
    · subst g
      exact ss a0 h0 k0 k1 k2 q0 q1 q2 w
    · exact sk a0 a2 h0 h2 g k0 k1 k2 q0 q1 q2 w
  · rcases Int.lt_trichotomy a0 a2 with g | g | g
    · exact ku a0 a1 a2 h0 h1 h h2 g k0 k1 k2 q0 q1 q2 w
    · subst g
      exact ks a0 a1 h0 h1 h k0 k1 k2 q0 q1 q2 w
    · exact kk a0 a1 a2 h0 h1 h h2 g k0 k1 k2 q0 q1 q2 w
end Go.Proofs.YtieeikddbdkehaaGreat.fnAcceptTwoBranchesDeepestLatestWins
