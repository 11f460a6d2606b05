/- The walk of n025_27.FnGroupGoStringTable. Conditions: fmt's text is told by the model's FmtText; the dump is cut with -reflectrows -leanrows. -/
import Derived.Test.YtbfnmhnlmglceaaGreatFmtGsC
import Derived.ProofKit
namespace Go.Proofs.YtbfnmhnlmglceaaGreatFmt.fnGroupGoStringTable
open Go.RowKit Go.Extern.Stop Go.Stop Go.Extern Go.Kit
set_option linter.unusedVariables false
set_option maxRecDepth 100000 in
theorem good (F : Interp) (m : Nat) (hm : m ≤ 4) (w : World) (hF : F.told.answers w.tape) :
    Calls Tryz.prog 3 #[.int .i64 m] w fun e w' => e = .returned (.bool true) ∧ Below w.heap.size w w' := by
  have HF := Lib.hid hF
  clear hF
  have h4 : ¬ (4 : Int) < (m : Int) := by omega
  go_enter Tryz.func3, Tryz.ntmps3
  go_wp2_with fail
  refine (zz6 F m hm _ _ HF.out).mono ?_
  rintro e w' ⟨rfl, hb⟩
  have HB := Lib.hid hb
  clear hb
  go_wp2_with fail
  refine (zzMode m hm _).mono ?_
  rintro e _ ⟨rfl, rfl⟩
  go_wp2_with fail
  go_ret
  exact ⟨by simp, HB.out⟩
theorem walk (F : Interp) (a0 : Int) (w : World) (hF : F.told.answers w.tape) (w0 : (Lit.int .i64 a0).wf = true) :
    Calls Tryz.prog 3 #[.int .i64 a0] w fun e w' => e = .returned (.bool true) ∧ Below w.heap.size w w' := by
  by_cases h0 : a0 < 0
  · go_enter Tryz.func3, Tryz.ntmps3
    go_wp2_with fail
    go_ret
    exact ⟨rfl, Below.refl _ _⟩
  by_cases h4 : 4 < a0
  · go_enter Tryz.func3, Tryz.ntmps3
    go_wp2_with fail
    go_ret
    exact ⟨rfl, Below.refl _ _⟩
  obtain ⟨m, rfl⟩ : ∃ k : Nat, a0 = k := ⟨a0.toNat, by omega⟩
  exact good F m (by omega) w hF
end Go.Proofs.YtbfnmhnlmglceaaGreatFmt.fnGroupGoStringTable
