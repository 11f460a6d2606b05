/- The walk of n025_27.FnLookaheadGoStringDiffersFromGroup. Conditions: fmt's text is told by the model's FmtText; the dump is cut with -reflectrows -leanrows. -/
import Derived.Test.YtbfnmhnlmglceaaGreatFmtGsC
import Derived.ProofKit
namespace Go.Proofs.YtbfnmhnlmglceaaGreatFmt.fnLookaheadGoStringDiffersFromGroup
open Go.RowKit Go.Extern.Stop Go.Stop Go.Extern Go.Kit
set_option linter.unusedVariables false
theorem gs_list (m : Nat) : (gs m).toList = goText m := ByteArray.toList_mk (goText m)
theorem gs_look (m : Nat) (hm : m ≤ 4) : ¬ [108, 111, 111, 107, 97, 104, 101, 97, 100, 71, 114, 111, 117, 112, 123, 125] = (gs m).toList := by
  rw [gs_list]
  have : ∀ a : Fin 5, ¬ [108, 111, 111, 107, 97, 104, 101, 97, 100, 71, 114, 111, 117, 112, 123, 125] = goText a := by decide
  exact this ⟨m, by omega⟩
set_option maxRecDepth 100000 in
theorem good (F : Interp) (m : Nat) (hm : m ≤ 4) (s : ByteArray) (b : Bool) (hs : s.size ≤ 1048576) (w : World) (hF : F.told.answers w.tape) :
    Calls Tryz.prog 4 #[.int .i64 m, .string s, .bool b] w fun e w' => e = .returned (.bool true) ∧ Below w.heap.size w w' := by
  have HF := Lib.hid hF
  clear hF
  have h4 : ¬ (4 : Int) < (m : Int) := by omega
  have hs1 : ¬ (1048576 : Int) < (s.size : Int) := by omega
  go_enter Tryz.func4, Tryz.ntmps4
  go_wp2_with (go_at_call 8; go_in)
  refine (zz9 s b _).mono ?_
  rintro e w1 ⟨rfl, hb⟩
  have HB := Lib.hid hb
  have HF1 : Hid (F.told.answers w1.tape) := by
    show F.told.answers w1.tape
    rw [hb.tape]
    exact HF.out
  clear hb
  go_wp2_with fail
  refine (zz6 F m hm s _ HF1.out).mono ?_
  rintro e w2 ⟨rfl, hb⟩
  have HB2 := Lib.hid hb
  clear hb
  go_wp2_with fail
  go_ret
  exact ⟨by simpa using gs_look m hm, HB.out.trans (HB2.out.mono HB.out.size)⟩
theorem walk (F : Interp) (a0 : Int) (a1 : ByteArray) (a2 : Bool) (w : World) (hF : F.told.answers w.tape) (w0 : (Lit.int .i64 a0).wf = true) (w1 : a1.size ≤ maxLen) :
    Calls Tryz.prog 4 #[.int .i64 a0, .string a1, .bool a2] w fun e w' => e = .returned (.bool true) ∧ Below w.heap.size w w' := by
  unfold maxLen at w1
  by_cases hs : 1048576 < a1.size
  · have hs1 : (1048576 : Int) < (a1.size : Int) := by omega
    go_enter Tryz.func4, Tryz.ntmps4
    go_wp2_with (go_at_call 8; go_in)
    go_ret
    exact ⟨rfl, Below.refl _ _⟩
  have hs1 : ¬ (1048576 : Int) < (a1.size : Int) := by omega
  by_cases h0 : a0 < 0
  · go_enter Tryz.func4, Tryz.ntmps4
    go_wp2_with (go_at_call 8; go_in)
    go_ret
    exact ⟨rfl, Below.refl _ _⟩
  by_cases h4 : 4 < a0
  · go_enter Tryz.func4, Tryz.ntmps4
    go_wp2_with (go_at_call 8; go_in)
    go_ret
    exact ⟨rfl, Below.refl _ _⟩
  obtain ⟨m, rfl⟩ : ∃ k : Nat, a0 = k := ⟨a0.toNat, by omega⟩
  exact good F m (by omega) a1 a2 (by omega) w hF
end Go.Proofs.YtbfnmhnlmglceaaGreatFmt.fnLookaheadGoStringDiffersFromGroup
