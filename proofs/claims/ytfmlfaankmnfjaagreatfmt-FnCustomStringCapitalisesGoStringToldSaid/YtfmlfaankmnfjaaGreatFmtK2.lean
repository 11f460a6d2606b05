/- The three custom nodes: their String; the law that it is the production name. Conditions: the dump is cut with -reflectrows -leanrows. -/
import Derived.Test.YtfmlfaankmnfjaaGreatFmtK1
namespace Go.Proofs.YtfmlfaankmnfjaaGreatFmt
open Go.RowKit
theorem custom_text0 : (⟨#[90]⟩ : ByteArray) ++ (⟨#[122, 122, 73, 102, 97, 99, 101]⟩ : ByteArray).extract 1 7 = ⟨#[90, 122, 73, 102, 97, 99, 101]⟩ := by decide
theorem custom_text1 : (⟨#[80]⟩ : ByteArray) ++ (⟨#[80, 97, 114, 115, 101, 97, 98, 108, 101]⟩ : ByteArray).extract 1 9 = ⟨#[80, 97, 114, 115, 101, 97, 98, 108, 101]⟩ := by decide
theorem custom_text2 : (⟨#[90]⟩ : ByteArray) ++ (⟨#[122, 122, 83, 104, 97, 112, 101]⟩ : ByteArray).extract 1 7 = ⟨#[90, 122, 83, 104, 97, 112, 101]⟩ := by decide
set_option maxHeartbeats 1000000 in
set_option maxRecDepth 100000 in
theorem cs0 (w : World) : Calls Tryz.prog 18 #[.int .i64 0] w fun e w' => e = .returned (.string ⟨#[90, 122, 73, 102, 97, 99, 101]⟩) ∧ Below w.heap.size w w' := by
  have x1 := cx_typeOf 87
  have x2 := cnil_elem 87
  have x3 := cmethod_elem 87
  have x4 := celem58
  go_enter Tryz.func18, Tryz.ntmps18
  go_wp2_with (go_at_call 23; go_in)
  refine (str_custom _ _ _ (pr_custom0 _ _ true w.heap.size (by go_simp) (by simp)) (by decide)).mono ?_
  rw [custom_text0]
  rintro e w2 ⟨rfl, hb⟩
  have HB := Lib.hid hb
  clear hb
  go_wp2_with fail
  go_ret
  exact ⟨rfl, ((Below.refl _ w).alloc (Nat.le_refl _) _).trans (HB.out.mono (by simp))⟩
set_option maxHeartbeats 1000000 in
set_option maxRecDepth 100000 in
theorem cs1 (w : World) : Calls Tryz.prog 18 #[.int .i64 1] w fun e w' => e = .returned (.string ⟨#[80, 97, 114, 115, 101, 97, 98, 108, 101]⟩) ∧ Below w.heap.size w w' := by
  have x1 := cx_typeOf 94
  have x2 := cnil_elem 94
  have x3 := cmethod_elem 94
  have x4 := celem66
  go_enter Tryz.func18, Tryz.ntmps18
  go_wp2_with (go_at_call 25; go_in)
  refine (str_custom _ _ _ (pr_custom1 _ _ true w.heap.size (by go_simp) (by simp)) (by decide)).mono ?_
  rw [custom_text1]
  rintro e w2 ⟨rfl, hb⟩
  have HB := Lib.hid hb
  clear hb
  go_wp2_with fail
  go_ret
  exact ⟨rfl, ((Below.refl _ w).alloc (Nat.le_refl _) _).trans (HB.out.mono (by simp))⟩
set_option maxHeartbeats 1000000 in
set_option maxRecDepth 100000 in
theorem cs2 (w : World) : Calls Tryz.prog 18 #[.int .i64 2] w fun e w' => e = .returned (.string ⟨#[90, 122, 83, 104, 97, 112, 101]⟩) ∧ Below w.heap.size w w' := by
  have x1 := cx_typeOf 95
  have x2 := cnil_elem 95
  have x3 := cmethod_elem 95
  have x4 := celem67
  go_enter Tryz.func18, Tryz.ntmps18
  go_wp2_with (go_at_call 26; go_in)
  refine (str_custom _ _ _ (pr_custom2 _ _ true w.heap.size (by go_simp) (by simp)) (by decide)).mono ?_
  rw [custom_text2]
  rintro e w2 ⟨rfl, hb⟩
  have HB := Lib.hid hb
  clear hb
  go_wp2_with fail
  go_ret
  exact ⟨rfl, ((Below.refl _ w).alloc (Nat.le_refl _) _).trans (HB.out.mono (by simp))⟩
end Go.Proofs.YtfmlfaankmnfjaaGreatFmt
