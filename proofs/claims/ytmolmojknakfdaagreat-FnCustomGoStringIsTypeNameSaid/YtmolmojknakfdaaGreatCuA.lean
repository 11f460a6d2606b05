/- What the calls of package reflect that a custom node's GoString makes answer, in every world (the model's own entries). Conditions: the dump is cut with -reflectrows -leanrows. -/
import Derived.Test.YtmolmojknakfdaaGreatRows
import Derived.WalkKit
import Derived.ProofKit
import Derived.Below
import Derived.Outline
import Derived.Laws.Externs
import Derived.Handy
import Derived.Lib.Hide
namespace Go.Proofs.YtmolmojknakfdaaGreat
open Go.RowKit
theorem ex_typeOf (t : TypeId) (x : Value) (w : World) : (callFunc 9 #[.iface t x]).run Tryz.prog w = .ok (.value (.iface 59 (.pointer (some ⟨0, t, none⟩)))) w := by kernel_rfl
theorem nil_elem (t : Nat) (w : World) : (nilAhead 157 59 (.pointer (some ⟨0, t, none⟩)) "Elem").run Tryz.prog w = .ok (some false) w := by kernel_rfl
theorem method_elem (t : Nat) (w : World) : (method 157 59 (.pointer (some ⟨0, t, none⟩)) "Elem").run Tryz.prog w = .ok (168, .pointer (some ⟨0, t, none⟩)) w := by kernel_rfl
theorem elem50 (w : World) : (callFunc 168 #[.pointer (some ⟨0, 50, none⟩)]).run Tryz.prog w = .ok (.value (.iface 59 (.pointer (some ⟨0, 41, none⟩)))) w := by kernel_rfl
theorem elem57 (w : World) : (callFunc 168 #[.pointer (some ⟨0, 57, none⟩)]).run Tryz.prog w = .ok (.value (.iface 59 (.pointer (some ⟨0, 44, none⟩)))) w := by kernel_rfl
theorem elem58 (w : World) : (callFunc 168 #[.pointer (some ⟨0, 58, none⟩)]).run Tryz.prog w = .ok (.value (.iface 59 (.pointer (some ⟨0, 46, none⟩)))) w := by kernel_rfl
theorem nil_name (t : Nat) (w : World) : (nilAhead 157 59 (.pointer (some ⟨0, t, none⟩)) "Name").run Tryz.prog w = .ok (some false) w := by kernel_rfl
theorem method_name (t : Nat) (w : World) : (method 157 59 (.pointer (some ⟨0, t, none⟩)) "Name").run Tryz.prog w = .ok (185, .pointer (some ⟨0, t, none⟩)) w := by kernel_rfl
theorem name41 (w : World) : (callFunc 185 #[.pointer (some ⟨0, 41, none⟩)]).run Tryz.prog w = .ok (.value (.string ⟨#[122, 122, 73, 102, 97, 99, 101]⟩)) w := by kernel_rfl
theorem name44 (w : World) : (callFunc 185 #[.pointer (some ⟨0, 44, none⟩)]).run Tryz.prog w = .ok (.value (.string ⟨#[80, 97, 114, 115, 101, 97, 98, 108, 101]⟩)) w := by kernel_rfl
theorem name46 (w : World) : (callFunc 185 #[.pointer (some ⟨0, 46, none⟩)]).run Tryz.prog w = .ok (.value (.string ⟨#[122, 122, 83, 104, 97, 112, 101]⟩)) w := by kernel_rfl
set_option maxHeartbeats 1000000 in
set_option maxRecDepth 100000 in
theorem go0 (w : World) : Calls Tryz.prog 4 #[.int .i64 0] w fun e w' => e = .returned (.string ⟨#[122, 122, 73, 102, 97, 99, 101]⟩) ∧ Below w.heap.size w w' := by
  have x1 := ex_typeOf 50
  have x2 := nil_elem 50
  have x3 := method_elem 50
  have x4 := elem50
  have x5 := nil_name 41
  have x6 := method_name 41
  have x7 := name41
  go_enter Tryz.func4, Tryz.ntmps4
  go_wp2
  go_ret
  refine ⟨rfl, ?_⟩
  go_grown
set_option maxHeartbeats 1000000 in
set_option maxRecDepth 100000 in
theorem go1 (w : World) : Calls Tryz.prog 4 #[.int .i64 1] w fun e w' => e = .returned (.string ⟨#[80, 97, 114, 115, 101, 97, 98, 108, 101]⟩) ∧ Below w.heap.size w w' := by
  have x1 := ex_typeOf 57
  have x2 := nil_elem 57
  have x3 := method_elem 57
  have x4 := elem57
  have x5 := nil_name 44
  have x6 := method_name 44
  have x7 := name44
  go_enter Tryz.func4, Tryz.ntmps4
  go_wp2
  go_ret
  refine ⟨rfl, ?_⟩
  go_grown
set_option maxHeartbeats 1000000 in
set_option maxRecDepth 100000 in
theorem go2 (w : World) : Calls Tryz.prog 4 #[.int .i64 2] w fun e w' => e = .returned (.string ⟨#[122, 122, 83, 104, 97, 112, 101]⟩) ∧ Below w.heap.size w w' := by
  have x1 := ex_typeOf 58
  have x2 := nil_elem 58
  have x3 := method_elem 58
  have x4 := elem58
  have x5 := nil_name 46
  have x6 := method_name 46
  have x7 := name46
  go_enter Tryz.func4, Tryz.ntmps4
  go_wp2
  go_ret
  refine ⟨rfl, ?_⟩
  go_grown
set_option maxRecDepth 100000 in
theorem law0 (w : World) : Calls Tryz.prog 3 #[.int .i64 0] w fun e w' => e = .returned (.bool true) ∧ Below w.heap.size w w' := by
  go_enter Tryz.func3, Tryz.ntmps3
  go_wp2_with fail
  refine (go0 _).mono ?_
  rintro e w2 ⟨rfl, hb⟩
  have HB := Lib.hid hb
  clear hb
  go_wp2_with fail
  go_ret
  exact ⟨rfl, HB.out⟩
set_option maxRecDepth 100000 in
theorem law1 (w : World) : Calls Tryz.prog 3 #[.int .i64 1] w fun e w' => e = .returned (.bool true) ∧ Below w.heap.size w w' := by
  go_enter Tryz.func3, Tryz.ntmps3
  go_wp2_with fail
  refine (go1 _).mono ?_
  rintro e w2 ⟨rfl, hb⟩
  have HB := Lib.hid hb
  clear hb
  go_wp2_with fail
  go_ret
  exact ⟨rfl, HB.out⟩
set_option maxRecDepth 100000 in
theorem law2 (w : World) : Calls Tryz.prog 3 #[.int .i64 2] w fun e w' => e = .returned (.bool true) ∧ Below w.heap.size w w' := by
  go_enter Tryz.func3, Tryz.ntmps3
  go_wp2_with fail
  refine (go2 _).mono ?_
  rintro e w2 ⟨rfl, hb⟩
  have HB := Lib.hid hb
  clear hb
  go_wp2_with fail
  go_ret
  exact ⟨rfl, HB.out⟩
theorem walk (k : Int) (w : World) : Calls Tryz.prog 3 #[.int .i64 k] w fun e w' => e = .returned (.bool true) ∧ Below w.heap.size w w' := by
  by_cases h0 : k < 0
  · go_enter Tryz.func3, Tryz.ntmps3
    go_wp2_with fail
    go_ret
    exact ⟨rfl, Below.refl _ _⟩
  by_cases h2 : 2 < k
  · go_enter Tryz.func3, Tryz.ntmps3
    go_wp2_with fail
    go_ret
    exact ⟨rfl, Below.refl _ _⟩
  rcases (by omega : k = 0 ∨ k = 1 ∨ k = 2) with rfl | rfl | rfl
  · exact law0 w
  · exact law1 w
  · exact law2 w
end Go.Proofs.YtmolmojknakfdaaGreat
