/- What the calls of package reflect that maybeRef makes answer, in every world (the model's own entries), and maybeRef's three ways. Conditions: the dump is cut with -reflectrows -leanrows. -/
import Derived.Test.YtmfkenjlcplkdaaGreatRows
import Derived.WalkKit
import Derived.ProofKit
import Derived.Below
import Derived.Outline
import Derived.Laws.Externs
namespace Go.Proofs.YtmfkenjlcplkdaaGreat
open Go.RowKit
def hdl (t : Nat) : Value := .pointer (some ⟨0, t, none⟩)
theorem ex_typeOf (t : TypeId) (x : Value) (w : World) : (callFunc 9 #[.iface t x]).run Tryz.prog w = .ok (.value (.iface 57 (.pointer (some ⟨0, t, none⟩)))) w := by kernel_rfl
theorem ex_valueOf (q : Option Addr) (w : World) : (callFunc 10 #[.iface 37 (.pointer q)]).run Tryz.prog w = .ok (.value (.agg #[.pointer (some ⟨0, 37, none⟩), .pointer (some ⟨w.heap.size, 0, none⟩), .int .u64 150])) (w.alloc (.cells #[.pointer q] 37)) := by kernel_rfl
theorem ex_type (a : Addr) (w : World) : (callFunc 14 #[.agg #[.pointer (some ⟨0, 2, none⟩), .pointer (some a), .int .u64 390]]).run Tryz.prog w = .ok (.value (.iface 57 (.pointer (some ⟨0, 2, none⟩)))) w := by kernel_rfl
theorem ex_canAddr (a : Addr) (w : World) : (callFunc 15 #[.agg #[.pointer (some ⟨0, 2, none⟩), .pointer (some a), .int .u64 390]]).run Tryz.prog w = .ok (.value (.bool true)) w := by kernel_rfl
theorem ex_addr (a : Addr) (w : World) : (callFunc 16 #[.agg #[.pointer (some ⟨0, 2, none⟩), .pointer (some a), .int .u64 390]]).run Tryz.prog w = .ok (.value (.agg #[.pointer (some ⟨0, 37, none⟩), .pointer (some ⟨w.heap.size, 0, none⟩), .int .u64 150])) (w.alloc (.cells #[.pointer (some a)] 37)) := by kernel_rfl
theorem eq_same (w : World) : (binOp .eql 45 (.iface 57 (.pointer (some ⟨0, 2, none⟩))) (.iface 57 (.pointer (some ⟨0, 2, none⟩)))).run Tryz.prog w = .ok (.bool true) w := by kernel_rfl
theorem eq_i32 (w : World) : (binOp .eql 45 (.iface 57 (.pointer (some ⟨0, 2, none⟩))) (.iface 57 (.pointer (some ⟨0, 21, none⟩)))).run Tryz.prog w = .ok (.bool false) w := by kernel_rfl
theorem eq_ptr (w : World) : (binOp .eql 45 (.iface 57 (.pointer (some ⟨0, 2, none⟩))) (.iface 57 (.pointer (some ⟨0, 37, none⟩)))).run Tryz.prog w = .ok (.bool false) w := by kernel_rfl
theorem get_any (t : TypeId) (hagg : ∀ w : World, (isAgg t).run Tryz.prog w = .ok false w) (a : Addr) (f : Nat) (v : Value) (w : World) (h : w.cell? a = some v) : (Extern.Rvalue.V.get ⟨t, a, f⟩).run Tryz.prog w = .ok v w := by
  unfold Extern.Rvalue.V.get loadVar
  simp [hagg w, h, Result.andThen]
theorem agg37 (w : World) : (isAgg 37).run Tryz.prog w = .ok false w := by kernel_rfl
theorem agg2 (w : World) : (isAgg 2).run Tryz.prog w = .ok false w := by kernel_rfl
theorem parts37 (a : Addr) (w : World) : (Extern.Rvalue.parts (.agg #[.pointer (some ⟨0, 37, none⟩), .pointer (some a), .int .u64 150])).run Tryz.prog w = .ok (some ⟨37, a, 150⟩) w := by kernel_rfl
theorem parts2 (a : Addr) (w : World) : (Extern.Rvalue.parts (.agg #[.pointer (some ⟨0, 2, none⟩), .pointer (some a), .int .u64 390])).run Tryz.prog w = .ok (some ⟨2, a, 390⟩) w := by kernel_rfl
theorem elem37 (w : World) : (Extern.Rtype.elem? 37).run Tryz.prog w = .ok (some 2) w := by kernel_rfl
theorem mk2 (p : Addr) (w : World) : (Extern.Rvalue.mk 2 p Extern.Rvalue.flagAddr).run Tryz.prog w = .ok (.agg #[.pointer (some ⟨0, 2, none⟩), .pointer (some p), .int .u64 390]) w := by kernel_rfl
theorem ex_elem (a p : Addr) (w : World) (h : w.cell? a = some (.pointer (some p))) (hp : p.block ≠ 0) : (callFunc 11 #[.agg #[.pointer (some ⟨0, 37, none⟩), .pointer (some a), .int .u64 150]]).run Tryz.prog w = .ok (.value (.agg #[.pointer (some ⟨0, 2, none⟩), .pointer (some p), .int .u64 390])) w := by
  rw [run_callFunc_extern (e := Extern.Rvalue.method "Elem" fun v _ => Extern.ReflectWalk.elemV v) Tryz.func11 (by kernel_rfl) (by kernel_rfl) (by kernel_rfl) (by kernel_rfl)]
  have hg := get_any 37 agg37 a 150 _ w h
  simp [Extern.Rvalue.method, parts37, Extern.ReflectWalk.elemV, Extern.Rvalue.V.kind, hg, elem37, hp, mk2, Result.andThen]
theorem ex_int (a : Addr) (x : Int) (w : World) (h : w.cell? a = some (.int .i64 x)) : (callFunc 12 #[.agg #[.pointer (some ⟨0, 2, none⟩), .pointer (some a), .int .u64 390]]).run Tryz.prog w = .ok (.value (.int .i64 x)) w := by
  rw [run_callFunc_extern (e := Extern.ReflectRead.number "Int" 2 6 .i64) Tryz.func12 (by kernel_rfl) (by kernel_rfl) (by kernel_rfl) (by kernel_rfl)]
  have hg := get_any 2 agg2 a 390 _ w h
  simp [Extern.ReflectRead.number, Extern.Rvalue.method, parts2, Extern.Rvalue.V.kind, hg, asInt, asIntOf, Result.andThen]
theorem partsAny37 (a : Addr) (w : World) : (Extern.Rvalue.partsAny (.agg #[.pointer (some ⟨0, 37, none⟩), .pointer (some a), .int .u64 150])).run Tryz.prog w = .ok (some ⟨37, a, 150⟩) w := by kernel_rfl
theorem ex_interface (a p : Addr) (w : World) (h : w.cell? a = some (.pointer (some p))) : (callFunc 13 #[.agg #[.pointer (some ⟨0, 37, none⟩), .pointer (some a), .int .u64 150]]).run Tryz.prog w = .ok (.value (.iface 37 (.pointer (some p)))) w := by
  rw [run_callFunc_extern (e := Extern.ReflectRead.interface) Tryz.func13 (by kernel_rfl) (by kernel_rfl) (by kernel_rfl) (by kernel_rfl)]
  have hg := get_any 37 agg37 a 150 _ w h
  simp [Extern.ReflectRead.interface, Extern.Rvalue.methodAny, partsAny37, Extern.Rvalue.V.kind, Extern.Rvalue.V.readOnly, Extern.Rvalue.V.has, Extern.Rvalue.flagStickyRO, Extern.Rvalue.flagEmbedRO, hg, Result.andThen]
theorem nil_kind (t : Nat) (w : World) : (nilAhead 157 57 (.pointer (some ⟨0, t, none⟩)) "Kind").run Tryz.prog w = .ok (some false) w := by kernel_rfl
theorem method_kind (t : Nat) (w : World) : (method 157 57 (.pointer (some ⟨0, t, none⟩)) "Kind").run Tryz.prog w = .ok (181, .pointer (some ⟨0, t, none⟩)) w := by kernel_rfl
theorem kind37 (w : World) : (callFunc 181 #[.pointer (some ⟨0, 37, none⟩)]).run Tryz.prog w = .ok (.value (.int .u64 22)) w := by kernel_rfl
theorem kind21 (w : World) : (callFunc 181 #[.pointer (some ⟨0, 21, none⟩)]).run Tryz.prog w = .ok (.value (.int .u64 5)) w := by kernel_rfl
end Go.Proofs.YtmfkenjlcplkdaaGreat
