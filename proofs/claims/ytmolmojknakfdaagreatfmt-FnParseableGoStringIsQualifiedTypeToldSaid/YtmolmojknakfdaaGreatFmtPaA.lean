/- What the calls of package reflect that a parseable node's GoString makes answer, in every world (the model's own entries); GoString of the three nodes; the law. Conditions: the dump is cut with -reflectrows -leanrows. -/
import Derived.Test.YtmolmojknakfdaaGreatFmtRows
import Derived.WalkKit
import Derived.ProofKit
import Derived.Below
import Derived.Outline
import Derived.Laws.Externs
import Derived.Handy
import Derived.Lib.Hide
namespace Go.Proofs.YtmolmojknakfdaaGreatFmt
open Go.RowKit
theorem ex_typeOf (t : TypeId) (x : Value) (w : World) : (callFunc 19 #[.iface t x]).run Tryz.prog w = .ok (.value (.iface 73 (.pointer (some ⟨4, t, none⟩)))) w := by kernel_rfl
theorem nil_elem (t : Nat) (w : World) : (nilAhead 157 73 (.pointer (some ⟨4, t, none⟩)) "Elem").run Tryz.prog w = .ok (some false) w := by kernel_rfl
theorem method_elem (t : Nat) (w : World) : (method 157 73 (.pointer (some ⟨4, t, none⟩)) "Elem").run Tryz.prog w = .ok (210, .pointer (some ⟨4, t, none⟩)) w := by kernel_rfl
theorem nil_str (t : Nat) (w : World) : (nilAhead 157 73 (.pointer (some ⟨4, t, none⟩)) "String").run Tryz.prog w = .ok (some false) w := by kernel_rfl
theorem method_str (t : Nat) (w : World) : (method 157 73 (.pointer (some ⟨4, t, none⟩)) "String").run Tryz.prog w = .ok (240, .pointer (some ⟨4, t, none⟩)) w := by kernel_rfl
theorem elem68 (w : World) : (callFunc 210 #[.pointer (some ⟨4, 68, none⟩)]).run Tryz.prog w = .ok (.value (.iface 73 (.pointer (some ⟨4, 51, none⟩)))) w := by kernel_rfl
theorem str51 (w : World) : (callFunc 240 #[.pointer (some ⟨4, 51, none⟩)]).run Tryz.prog w = .ok (.value (.string ⟨#[122, 122, 108, 97, 119, 115, 46, 122, 122, 83, 101, 118, 101, 110]⟩)) w := by kernel_rfl
theorem elem71 (w : World) : (callFunc 210 #[.pointer (some ⟨4, 71, none⟩)]).run Tryz.prog w = .ok (.value (.iface 73 (.pointer (some ⟨4, 52, none⟩)))) w := by kernel_rfl
theorem str52 (w : World) : (callFunc 240 #[.pointer (some ⟨4, 52, none⟩)]).run Tryz.prog w = .ok (.value (.string ⟨#[122, 122, 108, 97, 119, 115, 46, 122, 122, 67, 111, 117, 110, 116]⟩)) w := by kernel_rfl
theorem elem72 (w : World) : (callFunc 210 #[.pointer (some ⟨4, 72, none⟩)]).run Tryz.prog w = .ok (.value (.iface 73 (.pointer (some ⟨4, 54, none⟩)))) w := by kernel_rfl
theorem str54 (w : World) : (callFunc 240 #[.pointer (some ⟨4, 54, none⟩)]).run Tryz.prog w = .ok (.value (.string ⟨#[122, 122, 108, 97, 119, 115, 46, 122, 122, 80, 97, 105, 114]⟩)) w := by kernel_rfl
set_option maxHeartbeats 1000000 in
set_option maxRecDepth 100000 in
theorem go0 (w : World) : Calls Tryz.prog 7 #[.int .i64 0] w fun e w' => e = .returned (.string ⟨#[122, 122, 108, 97, 119, 115, 46, 122, 122, 83, 101, 118, 101, 110]⟩) ∧ Below w.heap.size w w' := by
  have x1 := ex_typeOf 68
  have x2 := nil_elem 68
  have x3 := method_elem 68
  have x4 := elem68
  have x5 := nil_str 51
  have x6 := method_str 51
  have x7 := str51
  go_enter Tryz.func7, Tryz.ntmps7
  go_wp2
  go_ret
  refine ⟨rfl, ?_⟩
  go_grown
set_option maxHeartbeats 1000000 in
set_option maxRecDepth 100000 in
theorem go1 (w : World) : Calls Tryz.prog 7 #[.int .i64 1] w fun e w' => e = .returned (.string ⟨#[122, 122, 108, 97, 119, 115, 46, 122, 122, 67, 111, 117, 110, 116]⟩) ∧ Below w.heap.size w w' := by
  have x1 := ex_typeOf 71
  have x2 := nil_elem 71
  have x3 := method_elem 71
  have x4 := elem71
  have x5 := nil_str 52
  have x6 := method_str 52
  have x7 := str52
  go_enter Tryz.func7, Tryz.ntmps7
  go_wp2
  go_ret
  refine ⟨rfl, ?_⟩
  go_grown
set_option maxHeartbeats 1000000 in
set_option maxRecDepth 100000 in
theorem go2 (w : World) : Calls Tryz.prog 7 #[.int .i64 2] w fun e w' => e = .returned (.string ⟨#[122, 122, 108, 97, 119, 115, 46, 122, 122, 80, 97, 105, 114]⟩) ∧ Below w.heap.size w w' := by
  have x1 := ex_typeOf 72
  have x2 := nil_elem 72
  have x3 := method_elem 72
  have x4 := elem72
  have x5 := nil_str 54
  have x6 := method_str 54
  have x7 := str54
  go_enter Tryz.func7, Tryz.ntmps7
  go_wp2
  go_ret
  refine ⟨rfl, ?_⟩
  go_grown
set_option maxRecDepth 100000 in
theorem law0 (w : World) : Calls Tryz.prog 4 #[.int .i64 0] w fun e w' => e = .returned (.bool true) ∧ Below w.heap.size w w' := by
  go_enter Tryz.func4, Tryz.ntmps4
  go_wp2_with fail
  refine (go0 _).mono ?_
  rintro e w2 ⟨rfl, hb⟩
  have HB := Lib.hid hb
  clear hb
  go_wp2_with fail
  go_ret
  exact ⟨rfl, HB.out⟩
set_option maxRecDepth 100000 in
theorem law1 (w : World) : Calls Tryz.prog 4 #[.int .i64 1] w fun e w' => e = .returned (.bool true) ∧ Below w.heap.size w w' := by
  go_enter Tryz.func4, Tryz.ntmps4
  go_wp2_with fail
  refine (go1 _).mono ?_
  rintro e w2 ⟨rfl, hb⟩
  have HB := Lib.hid hb
  clear hb
  go_wp2_with fail
  go_ret
  exact ⟨rfl, HB.out⟩
set_option maxRecDepth 100000 in
theorem law2 (w : World) : Calls Tryz.prog 4 #[.int .i64 2] w fun e w' => e = .returned (.bool true) ∧ Below w.heap.size w w' := by
  go_enter Tryz.func4, Tryz.ntmps4
  go_wp2_with fail
  refine (go2 _).mono ?_
  rintro e w2 ⟨rfl, hb⟩
  have HB := Lib.hid hb
  clear hb
  go_wp2_with fail
  go_ret
  exact ⟨rfl, HB.out⟩
theorem walk (k : Int) (w : World) : Calls Tryz.prog 4 #[.int .i64 k] w fun e w' => e = .returned (.bool true) ∧ Below w.heap.size w w' := by
  by_cases h0 : k < 0
  · go_enter Tryz.func4, Tryz.ntmps4
    go_wp2_with fail
    go_ret
    exact ⟨rfl, Below.refl _ _⟩
  by_cases h2 : 2 < k
  · go_enter Tryz.func4, Tryz.ntmps4
    go_wp2_with fail
    go_ret
    exact ⟨rfl, Below.refl _ _⟩
  rcases (by omega : k = 0 ∨ k = 1 ∨ k = 2) with rfl | rfl | rfl
  · exact law0 w
  · exact law1 w
  · exact law2 w
end Go.Proofs.YtmolmojknakfdaaGreatFmt
