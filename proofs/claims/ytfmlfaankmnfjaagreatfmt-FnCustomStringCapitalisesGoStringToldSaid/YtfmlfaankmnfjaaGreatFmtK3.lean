/- A custom node's String agrees with its GoString but for the first letter's case: the law's walk. Conditions: the dump is cut with -reflectrows -leanrows. -/
import Derived.Test.YtfmlfaankmnfjaaGreatFmtK2
import Derived.Laws.IdiomStrings
namespace Go.Proofs.YtfmlfaankmnfjaaGreatFmt
open Go.RowKit
theorem conv1 (w' : World) (b : Nat) (c : UInt8) (h : w'.cell? ⟨b, 0, none⟩ = some (.int .u8 (c.toNat : Int))) : (convert 35 9 (.slice (some ⟨b, 0, none⟩) 1 1)).run Tryz.prog w' = .ok (.string ⟨#[c]⟩) w' :=
  run_convert_bytes_back (P := Tryz.prog) w' 35 9 5 ⟨b, 0, none⟩ 1 [c] Tryz.underlying35 Tryz.underlying5 Tryz.underlying9 (fun j hj => by
    obtain rfl : j = 0 := by simp at hj; omega
    exact h)
theorem cap_cell (w : World) (cs : Array Value) (t : TypeId) (j : Nat) (u : Value) (h : cs[j]? = some u) : (w.alloc (.cells cs t)).drew.cell? ⟨w.heap.size, j, none⟩ = some u := by
  have hc : (w.alloc (.cells cs t)).drew.heap[w.heap.size]? = some (.cells cs t) := heap_alloc_new w (.cells cs t)
  unfold World.cell?
  simp only [hc]
  exact h
set_option maxHeartbeats 1000000 in
set_option maxRecDepth 100000 in
theorem cg0 (w : World) : Calls Tryz.prog 17 #[.int .i64 0] w fun e w' => e = .returned (.string ⟨#[122, 122, 73, 102, 97, 99, 101]⟩) ∧ Below w.heap.size w w' := by
  have x1 := cx_typeOf 87
  have x2 := cnil_elem 87
  have x3 := cmethod_elem 87
  have x4 := celem58
  have x5 := cnil_name 69
  have x6 := cmethod_name 69
  have x7 := cname42
  go_enter Tryz.func17, Tryz.ntmps17
  go_wp2
  go_ret
  refine ⟨rfl, ?_⟩
  go_grown
set_option maxHeartbeats 1000000 in
set_option maxRecDepth 100000 in
theorem cap0 (w : World) : Calls Tryz.prog 19 #[.string ⟨#[122, 122, 73, 102, 97, 99, 101]⟩] w fun e w' => e = .returned (.string ⟨#[90, 122, 73, 102, 97, 99, 101]⟩) ∧ Below w.heap.size w w' := by
  have hcv := conv1 (w.alloc (.cells #[.int .u8 ((((⟨#[122, 122, 73, 102, 97, 99, 101]⟩ : ByteArray)[0]'(by decide)).toNat : Int) - 97 + 65)] 5)).drew w.heap.size 90 (cap_cell w _ _ 0 _ rfl)
  have hcw := conv1 (w.alloc (.cells #[.int .u8 90] 5)).drew w.heap.size 90 (cap_cell w _ _ 0 _ rfl)
  have ks : ¬ ((⟨#[90]⟩ : ByteArray).size + ((⟨#[122, 122, 73, 102, 97, 99, 101]⟩ : ByteArray).extract 1 7).size > 9223372036854775807) := by decide
  go_enter Tryz.func19, Tryz.ntmps19
  go_wp2_with fail
  go_region
  all_goals (
    go_wp2_with fail
    go_ret
    refine ⟨congrArg (fun b => Ending.returned (Value.string b)) custom_text0, ?_⟩
    go_grown)
set_option maxRecDepth 100000 in
theorem capital0 (w : World) : Calls Tryz.prog 4 #[.int .i64 0] w fun e w' => e = .returned (.bool true) ∧ Below w.heap.size w w' := by
  go_enter Tryz.func4, Tryz.ntmps4
  go_wp2_with fail
  refine (cg0 _).mono ?_
  rintro e w2 ⟨rfl, hb2⟩
  have HB2 := Lib.hid hb2
  clear hb2
  go_wp2_with fail
  refine (cs0 _).mono ?_
  rintro e w3 ⟨rfl, hb3⟩
  have HB3 := Lib.hid hb3
  clear hb3
  go_wp2_with fail
  refine (cap0 _).mono ?_
  rintro e w4 ⟨rfl, hb4⟩
  have HB4 := Lib.hid hb4
  clear hb4
  go_wp2_with fail
  go_ret
  exact ⟨rfl, (HB2.out.trans (HB3.out.mono HB2.out.size)).trans (HB4.out.mono (Nat.le_trans HB2.out.size HB3.out.size))⟩
set_option maxHeartbeats 1000000 in
set_option maxRecDepth 100000 in
theorem cg1 (w : World) : Calls Tryz.prog 17 #[.int .i64 1] w fun e w' => e = .returned (.string ⟨#[80, 97, 114, 115, 101, 97, 98, 108, 101]⟩) ∧ Below w.heap.size w w' := by
  have x1 := cx_typeOf 94
  have x2 := cnil_elem 94
  have x3 := cmethod_elem 94
  have x4 := celem66
  have x5 := cnil_name 71
  have x6 := cmethod_name 71
  have x7 := cname45
  go_enter Tryz.func17, Tryz.ntmps17
  go_wp2
  go_ret
  refine ⟨rfl, ?_⟩
  go_grown
set_option maxHeartbeats 1000000 in
set_option maxRecDepth 100000 in
theorem cap1 (w : World) : Calls Tryz.prog 19 #[.string ⟨#[80, 97, 114, 115, 101, 97, 98, 108, 101]⟩] w fun e w' => e = .returned (.string ⟨#[80, 97, 114, 115, 101, 97, 98, 108, 101]⟩) ∧ Below w.heap.size w w' := by
  have hcv := conv1 (w.alloc (.cells #[.int .u8 ((((⟨#[80, 97, 114, 115, 101, 97, 98, 108, 101]⟩ : ByteArray)[0]'(by decide)).toNat : Int))] 5)).drew w.heap.size 80 (cap_cell w _ _ 0 _ rfl)
  have hcw := conv1 (w.alloc (.cells #[.int .u8 80] 5)).drew w.heap.size 80 (cap_cell w _ _ 0 _ rfl)
  have ks : ¬ ((⟨#[80]⟩ : ByteArray).size + ((⟨#[80, 97, 114, 115, 101, 97, 98, 108, 101]⟩ : ByteArray).extract 1 9).size > 9223372036854775807) := by decide
  go_enter Tryz.func19, Tryz.ntmps19
  go_wp2_with fail
  go_region
  all_goals (
    go_wp2_with fail
    go_ret
    refine ⟨congrArg (fun b => Ending.returned (Value.string b)) custom_text1, ?_⟩
    go_grown)
set_option maxRecDepth 100000 in
theorem capital1 (w : World) : Calls Tryz.prog 4 #[.int .i64 1] w fun e w' => e = .returned (.bool true) ∧ Below w.heap.size w w' := by
  go_enter Tryz.func4, Tryz.ntmps4
  go_wp2_with fail
  refine (cg1 _).mono ?_
  rintro e w2 ⟨rfl, hb2⟩
  have HB2 := Lib.hid hb2
  clear hb2
  go_wp2_with fail
  refine (cs1 _).mono ?_
  rintro e w3 ⟨rfl, hb3⟩
  have HB3 := Lib.hid hb3
  clear hb3
  go_wp2_with fail
  refine (cap1 _).mono ?_
  rintro e w4 ⟨rfl, hb4⟩
  have HB4 := Lib.hid hb4
  clear hb4
  go_wp2_with fail
  go_ret
  exact ⟨rfl, (HB2.out.trans (HB3.out.mono HB2.out.size)).trans (HB4.out.mono (Nat.le_trans HB2.out.size HB3.out.size))⟩
set_option maxHeartbeats 1000000 in
set_option maxRecDepth 100000 in
theorem cg2 (w : World) : Calls Tryz.prog 17 #[.int .i64 2] w fun e w' => e = .returned (.string ⟨#[122, 122, 83, 104, 97, 112, 101]⟩) ∧ Below w.heap.size w w' := by
  have x1 := cx_typeOf 95
  have x2 := cnil_elem 95
  have x3 := cmethod_elem 95
  have x4 := celem67
  have x5 := cnil_name 73
  have x6 := cmethod_name 73
  have x7 := cname47
  go_enter Tryz.func17, Tryz.ntmps17
  go_wp2
  go_ret
  refine ⟨rfl, ?_⟩
  go_grown
set_option maxHeartbeats 1000000 in
set_option maxRecDepth 100000 in
theorem cap2 (w : World) : Calls Tryz.prog 19 #[.string ⟨#[122, 122, 83, 104, 97, 112, 101]⟩] w fun e w' => e = .returned (.string ⟨#[90, 122, 83, 104, 97, 112, 101]⟩) ∧ Below w.heap.size w w' := by
  have hcv := conv1 (w.alloc (.cells #[.int .u8 ((((⟨#[122, 122, 83, 104, 97, 112, 101]⟩ : ByteArray)[0]'(by decide)).toNat : Int) - 97 + 65)] 5)).drew w.heap.size 90 (cap_cell w _ _ 0 _ rfl)
  have hcw := conv1 (w.alloc (.cells #[.int .u8 90] 5)).drew w.heap.size 90 (cap_cell w _ _ 0 _ rfl)
  have ks : ¬ ((⟨#[90]⟩ : ByteArray).size + ((⟨#[122, 122, 83, 104, 97, 112, 101]⟩ : ByteArray).extract 1 7).size > 9223372036854775807) := by decide
  go_enter Tryz.func19, Tryz.ntmps19
  go_wp2_with fail
  go_region
  all_goals (
    go_wp2_with fail
    go_ret
    refine ⟨congrArg (fun b => Ending.returned (Value.string b)) custom_text2, ?_⟩
    go_grown)
set_option maxRecDepth 100000 in
theorem capital2 (w : World) : Calls Tryz.prog 4 #[.int .i64 2] w fun e w' => e = .returned (.bool true) ∧ Below w.heap.size w w' := by
  go_enter Tryz.func4, Tryz.ntmps4
  go_wp2_with fail
  refine (cg2 _).mono ?_
  rintro e w2 ⟨rfl, hb2⟩
  have HB2 := Lib.hid hb2
  clear hb2
  go_wp2_with fail
  refine (cs2 _).mono ?_
  rintro e w3 ⟨rfl, hb3⟩
  have HB3 := Lib.hid hb3
  clear hb3
  go_wp2_with fail
  refine (cap2 _).mono ?_
  rintro e w4 ⟨rfl, hb4⟩
  have HB4 := Lib.hid hb4
  clear hb4
  go_wp2_with fail
  go_ret
  exact ⟨rfl, (HB2.out.trans (HB3.out.mono HB2.out.size)).trans (HB4.out.mono (Nat.le_trans HB2.out.size HB3.out.size))⟩
theorem walk5 (k : Int) (w : World) : Calls Tryz.prog 4 #[.int .i64 k] w fun e w' => e = .returned (.bool true) ∧ Below w.heap.size w w' := by
  by_cases h0 : k < 0
  · go_enter Tryz.func4, Tryz.ntmps4
    go_wp2_with fail
    go_ret
    exact ⟨rfl, Below.refl _ _⟩
  by_cases h2 : 2 < k
  · go_enter Tryz.func4, Tryz.ntmps4
    go_wp2_with fail
    go_ret
    exact ⟨rfl, Below.refl _ _⟩
  rcases (by omega : k = 0 ∨ k = 1 ∨ k = 2) with rfl | rfl | rfl
  · exact capital0 w
  · exact capital1 w
  · exact capital2 w
end Go.Proofs.YtfmlfaankmnfjaaGreatFmt
