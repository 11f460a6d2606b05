/- The walk of n025_27.FnGroupGoStringIgnoresExprAndSeparatesModes. Conditions: fmt's text is told by the model's FmtText; the dump is cut with -reflectrows -leanrows. -/
import Derived.Test.YtbfnmhnlmglceaaGreatFmtGsC
import Derived.ProofKit
namespace Go.Proofs.YtbfnmhnlmglceaaGreatFmt.fnGroupGoStringIgnoresExprAndSeparatesModes
open Go.RowKit Go.Extern.Stop Go.Stop Go.Extern Go.Kit
set_option linter.unusedVariables false
theorem gs_list (m : Nat) : (gs m).toList = goText m := ByteArray.toList_mk (goText m)
theorem gs_iff (a b : Nat) (ha : a ≤ 4) (hb : b ≤ 4) : (((gs a).toList == (gs b).toList) == ((a : Int) == (b : Int))) = true := by
  rw [gs_list, gs_list]
  have : ∀ x y : Fin 5, ((goText x == goText y) == (((x : Nat) : Int) == ((y : Nat) : Int))) = true := by decide
  exact this ⟨a, by omega⟩ ⟨b, by omega⟩
set_option maxRecDepth 100000 in
theorem good (F : Interp) (m1 m2 : Nat) (h1 : m1 ≤ 4) (h2 : m2 ≤ 4) (s t : ByteArray) (hs : s.size + t.size ≤ 1048576) (w : World) (hF : F.told.answers w.tape) :
    Calls Tryz.prog 5 #[.int .i64 m1, .int .i64 m2, .string s, .string t] w fun e w' => e = .returned (.bool true) ∧ Below w.heap.size w w' := by
  have HF := Lib.hid hF
  clear hF
  have g1 : ¬ (4 : Int) < (m1 : Int) := by omega
  have g2 : ¬ (4 : Int) < (m2 : Int) := by omega
  have hs1 : ¬ (1048576 : Int) < (s.size : Int) := by omega
  have ht1 : ¬ (1048576 : Int) < (t.size : Int) := by omega
  have hst : ¬ (1048576 : Int) < (s.size : Int) + (t.size : Int) := by omega
  go_enter Tryz.func5, Tryz.ntmps5
  go_wp2_with (go_at_call 10; go_in)
  refine (zz6 F m1 h1 s _ HF.out).mono ?_
  rintro e w1 ⟨rfl, hb⟩
  have HB := Lib.hid hb
  have HF1 : Hid (F.told.answers w1.tape) := by
    show F.told.answers w1.tape
    rw [hb.tape]
    exact HF.out
  clear hb
  go_wp2_with fail
  refine (zz6 F m1 h1 t _ HF1.out).mono ?_
  rintro e w2 ⟨rfl, hb⟩
  have HB2 := Lib.hid hb
  have HF2 : Hid (F.told.answers w2.tape) := by
    show F.told.answers w2.tape
    rw [hb.tape]
    exact HF1.out
  clear hb
  go_wp2_with fail
  refine (zz6 F m2 h2 s _ HF2.out).mono ?_
  rintro e w3 ⟨rfl, hb⟩
  have HB3 := Lib.hid hb
  clear hb
  go_wp2_with fail
  go_ret
  refine ⟨?_, (HB.out.trans (HB2.out.mono HB.out.size)).trans (HB3.out.mono (Nat.le_trans HB.out.size HB2.out.size))⟩
  have := gs_iff m1 m2 h1 h2
  exact congrArg (fun b => Ending.returned (Value.bool b)) this
theorem walk (F : Interp) (a0 a1 : Int) (a2 a3 : ByteArray) (w : World) (hF : F.told.answers w.tape) (w0 : (Lit.int .i64 a0).wf = true) (w1 : (Lit.int .i64 a1).wf = true) (w2 : a2.size ≤ maxLen) (w3 : a3.size ≤ maxLen) :
    Calls Tryz.prog 5 #[.int .i64 a0, .int .i64 a1, .string a2, .string a3] w fun e w' => e = .returned (.bool true) ∧ Below w.heap.size w w' := by
  unfold maxLen at w2 w3
  by_cases hs : 1048576 < a2.size
  · have hs1 : (1048576 : Int) < (a2.size : Int) := by omega
    go_enter Tryz.func5, Tryz.ntmps5
    go_wp2_with (go_at_call 10; go_in)
    go_ret
    exact ⟨rfl, Below.refl _ _⟩
  have hs1 : ¬ (1048576 : Int) < (a2.size : Int) := by omega
  by_cases ht : 1048576 < a3.size
  · have ht1 : (1048576 : Int) < (a3.size : Int) := by omega
    go_enter Tryz.func5, Tryz.ntmps5
    go_wp2_with (go_at_call 10; go_in)
    go_ret
    exact ⟨rfl, Below.refl _ _⟩
  have ht1 : ¬ (1048576 : Int) < (a3.size : Int) := by omega
  by_cases hst : 1048576 < a2.size + a3.size
  · have hst1 : (1048576 : Int) < (a2.size : Int) + (a3.size : Int) := by omega
    go_enter Tryz.func5, Tryz.ntmps5
    go_wp2_with (go_at_call 10; go_in)
    go_ret
    exact ⟨rfl, Below.refl _ _⟩
  have hst1 : ¬ (1048576 : Int) < (a2.size : Int) + (a3.size : Int) := by omega
  by_cases h0 : a0 < 0
  · go_enter Tryz.func5, Tryz.ntmps5
    go_wp2_with (go_at_call 10; go_in)
    go_ret
    exact ⟨rfl, Below.refl _ _⟩
  by_cases h4 : 4 < a0
  · go_enter Tryz.func5, Tryz.ntmps5
    go_wp2_with (go_at_call 10; go_in)
    go_ret
    exact ⟨rfl, Below.refl _ _⟩
  by_cases g0 : a1 < 0
  · go_enter Tryz.func5, Tryz.ntmps5
    go_wp2_with (go_at_call 10; go_in)
    go_ret
    exact ⟨rfl, Below.refl _ _⟩
  by_cases g4 : 4 < a1
  · go_enter Tryz.func5, Tryz.ntmps5
    go_wp2_with (go_at_call 10; go_in)
    go_ret
    exact ⟨rfl, Below.refl _ _⟩
  obtain ⟨m1, rfl⟩ : ∃ k : Nat, a0 = k := ⟨a0.toNat, by omega⟩
  obtain ⟨m2, rfl⟩ : ∃ k : Nat, a1 = k := ⟨a1.toNat, by omega⟩
  exact good F m1 m2 (by omega) (by omega) a2 a3 (by omega) w hF
end Go.Proofs.YtbfnmhnlmglceaaGreatFmt.fnGroupGoStringIgnoresExprAndSeparatesModes
