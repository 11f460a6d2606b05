/- maybeRef's three ways. Conditions: the dump is cut with -reflectrows -leanrows. -/
import Derived.Test.YtmfkenjlcplkdaaGreatRefA
import Derived.Lib.Hide
import Derived.Handy
import Derived.Handed
import Derived.Lib.Builder
namespace Go.Proofs.YtmfkenjlcplkdaaGreat
open Go.RowKit
theorem ta37 (p : Addr) (w : World) : (Instr.typeAssert (.iface 37 (.pointer (some p))) 20 37 false).run Tryz.prog w = .ok (.pointer (some p)) w := by kernel_rfl
theorem info2 : (Tryz.prog.info? 2).isSome = true := by kernel_rfl
theorem neq37 (a : Addr) (w : World) : (binOp .neq 37 (.pointer (some a)) (.pointer (some a))).run Tryz.prog w = .ok (.bool false) w := by
  obtain ⟨j, hj⟩ := Option.isSome_iff_exists.1 info2
  exact Lib.run_neq_ptr_same (P := Tryz.prog) w a Tryz.underlying37 hj
def val2 (p : Addr) : Value := .agg #[.pointer (some ⟨0, 2, none⟩), .pointer (some p), .int .u64 390]
set_option maxRecDepth 100000 in
theorem maybe_same (w : World) (p : Addr) : Calls Tryz.prog 8 #[.iface 57 (.pointer (some ⟨0, 2, none⟩)), .agg #[.pointer (some ⟨0, 2, none⟩), .pointer (some p), .int .u64 390]] w fun e w' => e = .returned (val2 p) ∧ Below w.heap.size w w' := by
  have x1 := ex_type p
  have x2 := eq_same
  go_enter Tryz.func8, Tryz.ntmps8
  go_wp2
  refine bodyPost_ret (v := val2 p) (by simp [results, Tryz.results8, go_sem, val2]) rfl ⟨rfl, ?_⟩
  go_grown
set_option maxRecDepth 100000 in
theorem maybe_other (w : World) (p : Addr) : Calls Tryz.prog 8 #[.iface 57 (.pointer (some ⟨0, 21, none⟩)), .agg #[.pointer (some ⟨0, 2, none⟩), .pointer (some p), .int .u64 390]] w fun e w' => e = .returned (val2 p) ∧ Below w.heap.size w w' := by
  have x1 := ex_type p
  have x2 := eq_i32
  have x3 := nil_kind 21
  have x4 := method_kind 21
  have x5 := kind21
  go_enter Tryz.func8, Tryz.ntmps8
  go_wp2
  refine bodyPost_ret (v := val2 p) (by simp [results, Tryz.results8, go_sem, val2]) rfl ⟨rfl, ?_⟩
  go_grown
/-- The answer of Addr: a Value of *int64 whose cell (new) holds the address p. -/
def PtrAt (w : World) (p : Addr) (e : Ending) (w' : World) : Prop := ∃ g, e = .returned (.agg #[.pointer (some ⟨0, 37, none⟩), .pointer (some ⟨g, 0, none⟩), .int .u64 150]) ∧ w'.cell? ⟨g, 0, none⟩ = some (.pointer (some p)) ∧ Below w.heap.size w w'
set_option maxRecDepth 100000 in
theorem maybe_ptr (w : World) (p : Addr) : Calls Tryz.prog 8 #[.iface 57 (.pointer (some ⟨0, 37, none⟩)), .agg #[.pointer (some ⟨0, 2, none⟩), .pointer (some p), .int .u64 390]] w fun e w' => PtrAt w p e w' := by
  have x1 := ex_type p
  have x2 := eq_ptr
  have x3 := nil_kind 37
  have x4 := method_kind 37
  have x5 := kind37
  have x6 := ex_canAddr p
  have x7 := ex_addr p
  go_enter Tryz.func8, Tryz.ntmps8
  go_wp2
  refine bodyPost_ret (v := .agg #[.pointer (some ⟨0, 37, none⟩), .pointer (some ⟨w.heap.size + 1 + 1, 0, none⟩), .int .u64 150]) (by simp [results, Tryz.results8, go_sem]) rfl ⟨_, rfl, ?_, ?_⟩
  · go_simp
  · go_grown
set_option maxRecDepth 100000 in
theorem same_any (w : World) (p : Addr) (x : Int) (hx : w.cell? p = some (.int .i64 x)) (hp : p.block ≠ 0) (hlt : p.block < w.heap.size) : Calls Tryz.prog 5 #[.pointer (some p)] w fun e w' => e = .returned (.int .i64 x) ∧ Below w.heap.size w w' := by
  have x1 := ex_typeOf 2
  have x2 := ex_valueOf (some p)
  have x3 := ex_elem ⟨w.heap.size, 0, none⟩ p (w.alloc (.cells #[.pointer (some p)] 37)) (by go_simp) hp
  go_enter Tryz.func5, Tryz.ntmps5
  go_wp2_with fail
  refine (maybe_same _ p).mono ?_
  rintro e w2 ⟨rfl, hb⟩
  have hb' : Below w.heap.size w w2 := ((Below.refl _ w).alloc (Nat.le_refl _) _).trans (hb.mono (by simp))
  have x4 := ex_int p x w2 ((hb'.cell hlt).trans hx)
  have HB := Lib.hid hb'
  clear hb hb'
  unfold val2
  go_wp2_with fail
  go_ret
  exact ⟨rfl, HB.out⟩
set_option maxRecDepth 100000 in
theorem other_any (w : World) (p : Addr) (x : Int) (hx : w.cell? p = some (.int .i64 x)) (hp : p.block ≠ 0) (hlt : p.block < w.heap.size) : Calls Tryz.prog 6 #[.pointer (some p)] w fun e w' => e = .returned (.int .i64 x) ∧ Below w.heap.size w w' := by
  have x1 := ex_typeOf 21
  have x2 := ex_valueOf (some p)
  have x3 := ex_elem ⟨w.heap.size, 0, none⟩ p (w.alloc (.cells #[.pointer (some p)] 37)) (by go_simp) hp
  go_enter Tryz.func6, Tryz.ntmps6
  go_wp2_with fail
  refine (maybe_other _ p).mono ?_
  rintro e w2 ⟨rfl, hb⟩
  have hb' : Below w.heap.size w w2 := ((Below.refl _ w).alloc (Nat.le_refl _) _).trans (hb.mono (by simp))
  have x4 := ex_int p x w2 ((hb'.cell hlt).trans hx)
  have HB := Lib.hid hb'
  clear hb hb'
  unfold val2
  go_wp2_with fail
  go_ret
  exact ⟨rfl, HB.out⟩
set_option maxRecDepth 100000 in
theorem ptr_any (w : World) (p : Addr) (hp : p.block ≠ 0) : Calls Tryz.prog 7 #[.pointer (some p)] w fun e w' => e = .returned (.pointer (some p)) ∧ Below w.heap.size w w' := by
  have x1 := ex_typeOf 37
  have x2 := ex_valueOf (some p)
  have x3 := ex_elem ⟨w.heap.size, 0, none⟩ p (w.alloc (.cells #[.pointer (some p)] 37)) (by go_simp) hp
  go_enter Tryz.func7, Tryz.ntmps7
  go_wp2_with fail
  refine (maybe_ptr _ p).mono ?_
  rintro e w2 ⟨g, rfl, hg, hb⟩
  have hb' : Below w.heap.size w w2 := ((Below.refl _ w).alloc (Nat.le_refl _) _).trans (hb.mono (by simp))
  have x4 := ex_interface ⟨g, 0, none⟩ p w2 hg
  have x5 := ta37 p
  have HB := Lib.hid hb'
  clear hb hb'
  go_wp2_with fail
  go_ret
  exact ⟨rfl, HB.out⟩
set_option maxRecDepth 100000 in
theorem walk_same (x : Int) (w : World) (h0 : w.heap.size ≠ 0) : Calls Tryz.prog 3 #[.int .i64 x] w fun e w' => e = .returned (.bool true) ∧ Below w.heap.size w w' := by
  go_enter Tryz.func3, Tryz.ntmps3
  go_wp2_with fail
  refine (same_any _ _ x (by go_simp) h0 (by simp)).mono ?_
  rintro e w2 ⟨rfl, hb2⟩
  have HB2 := Lib.hid hb2
  clear hb2
  go_wp2_with fail
  refine (other_any _ _ x (by rw [HB2.out.cell (by simp)]; go_simp) h0 (Nat.lt_of_lt_of_le (by simp) HB2.out.size)).mono ?_
  rintro e w3 ⟨rfl, hb3⟩
  have HB3 := Lib.hid hb3
  clear hb3
  have c3 : w3.cell? ⟨w.heap.size, 0, none⟩ = some (.int .i64 x) := by
    rw [HB3.out.cell (Nat.lt_of_lt_of_le (by simp) HB2.out.size), HB2.out.cell (by simp)]
    go_simp
  go_wp2_with fail
  go_ret
  have s2 := HB2.out.size
  exact ⟨rfl, (((Below.refl _ w).alloc (Nat.le_refl _) _).trans (HB2.out.mono (by simp))).trans (HB3.out.mono (by simp at s2; omega))⟩
set_option maxRecDepth 100000 in
theorem walk_ptr (x : Int) (w : World) (h0 : w.heap.size ≠ 0) : Calls Tryz.prog 4 #[.int .i64 x] w fun e w' => e = .returned (.bool true) ∧ Below w.heap.size w w' := by
  go_enter Tryz.func4, Tryz.ntmps4
  go_wp2_with fail
  refine (ptr_any _ _ h0).mono ?_
  rintro e w2 ⟨rfl, hb2⟩
  have HB2 := Lib.hid hb2
  clear hb2
  have c2 : w2.cell? ⟨w.heap.size, 0, none⟩ = some (.int .i64 x) := by
    rw [HB2.out.cell (by simp)]
    go_simp
  have f2 : w2.frozen? ⟨w.heap.size, 0, none⟩ = false := by
    rw [HB2.out.frozen (by simp)]
    go_simp
  have hn := neq37 ⟨w.heap.size, 0, none⟩
  go_wp2_with fail
  go_ret
  have s2 := HB2.out.size
  exact ⟨rfl, (((Below.refl _ w).alloc (Nat.le_refl _) _).trans (HB2.out.mono (by simp))).setCell (Nat.le_refl _) _⟩
theorem start_size : decide (0 < (begin Tryz.prog (fun _ _ => 0) default).world.heap.size) = true := by kernel_rfl
theorem no_vars : decide (Tryz.prog.globals.size ≤ 0) = true := by kernel_rfl
/-- A world that a call starts in has a block: that of the type descriptors. -/
theorem shaped_size {w : World} (h : w.ShapedOpen Tryz.prog) : w.heap.size ≠ 0 := by
  obtain ⟨o, _, h1, _⟩ := h.2 0 (of_decide_eq_true no_vars) (of_decide_eq_true start_size)
  obtain ⟨hlt, _⟩ := Array.getElem?_eq_some_iff.1 h1
  omega
end Go.Proofs.YtmfkenjlcplkdaaGreat
