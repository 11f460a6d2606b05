/- What a type switch over a node of the grammar answers, type by type: closed facts of the program. Conditions: the dump is cut with -reflectrows -leanrows. -/
import Derived.Test.YtiofodmlgneieaaGreatFmtRows
import Derived.WalkKit
namespace Go.Proofs.YtiofodmlgneieaaGreatFmt
@[go_sem] theorem ta_disjunction (q : Option Addr) (w : World) : (Instr.typeAssert (.iface 57 (.pointer q)) 62 57 true).run Tryz.prog w = .ok (.tuple #[.pointer q, .bool true]) w := by kernel_rfl
@[go_sem] theorem ta_disjunction_union (x : Value) (w : World) : (Instr.typeAssert (.iface 57 x) 62 78 true).run Tryz.prog w = .ok (.tuple #[.pointer none, .bool false]) w := by kernel_rfl
@[go_sem] theorem ta_disjunction_custom (x : Value) (w : World) : (Instr.typeAssert (.iface 57 x) 62 86 true).run Tryz.prog w = .ok (.tuple #[.pointer none, .bool false]) w := by kernel_rfl
@[go_sem] theorem ta_disjunction_strct (x : Value) (w : World) : (Instr.typeAssert (.iface 57 x) 62 69 true).run Tryz.prog w = .ok (.tuple #[.pointer none, .bool false]) w := by kernel_rfl
@[go_sem] theorem ta_disjunction_sequence (x : Value) (w : World) : (Instr.typeAssert (.iface 57 x) 62 95 true).run Tryz.prog w = .ok (.tuple #[.pointer none, .bool false]) w := by kernel_rfl
@[go_sem] theorem ta_disjunction_parseable (x : Value) (w : World) : (Instr.typeAssert (.iface 57 x) 62 98 true).run Tryz.prog w = .ok (.tuple #[.pointer none, .bool false]) w := by kernel_rfl
@[go_sem] theorem ta_disjunction_capture (x : Value) (w : World) : (Instr.typeAssert (.iface 57 x) 62 101 true).run Tryz.prog w = .ok (.tuple #[.pointer none, .bool false]) w := by kernel_rfl
@[go_sem] theorem ta_disjunction_reference (x : Value) (w : World) : (Instr.typeAssert (.iface 57 x) 62 109 true).run Tryz.prog w = .ok (.tuple #[.pointer none, .bool false]) w := by kernel_rfl
@[go_sem] theorem ta_disjunction_negation (x : Value) (w : World) : (Instr.typeAssert (.iface 57 x) 62 112 true).run Tryz.prog w = .ok (.tuple #[.pointer none, .bool false]) w := by kernel_rfl
@[go_sem] theorem ta_disjunction_literal (x : Value) (w : World) : (Instr.typeAssert (.iface 57 x) 62 47 true).run Tryz.prog w = .ok (.tuple #[.pointer none, .bool false]) w := by kernel_rfl
@[go_sem] theorem ta_disjunction_group (x : Value) (w : World) : (Instr.typeAssert (.iface 57 x) 62 115 true).run Tryz.prog w = .ok (.tuple #[.pointer none, .bool false]) w := by kernel_rfl
@[go_sem] theorem ta_disjunction_lookaheadGroup (x : Value) (w : World) : (Instr.typeAssert (.iface 57 x) 62 56 true).run Tryz.prog w = .ok (.tuple #[.pointer none, .bool false]) w := by kernel_rfl
@[go_sem] theorem ta_sequence_disjunction (x : Value) (w : World) : (Instr.typeAssert (.iface 95 x) 62 57 true).run Tryz.prog w = .ok (.tuple #[.pointer none, .bool false]) w := by kernel_rfl
@[go_sem] theorem ta_sequence_union (x : Value) (w : World) : (Instr.typeAssert (.iface 95 x) 62 78 true).run Tryz.prog w = .ok (.tuple #[.pointer none, .bool false]) w := by kernel_rfl
@[go_sem] theorem ta_sequence_custom (x : Value) (w : World) : (Instr.typeAssert (.iface 95 x) 62 86 true).run Tryz.prog w = .ok (.tuple #[.pointer none, .bool false]) w := by kernel_rfl
@[go_sem] theorem ta_sequence_strct (x : Value) (w : World) : (Instr.typeAssert (.iface 95 x) 62 69 true).run Tryz.prog w = .ok (.tuple #[.pointer none, .bool false]) w := by kernel_rfl
@[go_sem] theorem ta_sequence (q : Option Addr) (w : World) : (Instr.typeAssert (.iface 95 (.pointer q)) 62 95 true).run Tryz.prog w = .ok (.tuple #[.pointer q, .bool true]) w := by kernel_rfl
@[go_sem] theorem ta_sequence_parseable (x : Value) (w : World) : (Instr.typeAssert (.iface 95 x) 62 98 true).run Tryz.prog w = .ok (.tuple #[.pointer none, .bool false]) w := by kernel_rfl
@[go_sem] theorem ta_sequence_capture (x : Value) (w : World) : (Instr.typeAssert (.iface 95 x) 62 101 true).run Tryz.prog w = .ok (.tuple #[.pointer none, .bool false]) w := by kernel_rfl
@[go_sem] theorem ta_sequence_reference (x : Value) (w : World) : (Instr.typeAssert (.iface 95 x) 62 109 true).run Tryz.prog w = .ok (.tuple #[.pointer none, .bool false]) w := by kernel_rfl
@[go_sem] theorem ta_sequence_negation (x : Value) (w : World) : (Instr.typeAssert (.iface 95 x) 62 112 true).run Tryz.prog w = .ok (.tuple #[.pointer none, .bool false]) w := by kernel_rfl
@[go_sem] theorem ta_sequence_literal (x : Value) (w : World) : (Instr.typeAssert (.iface 95 x) 62 47 true).run Tryz.prog w = .ok (.tuple #[.pointer none, .bool false]) w := by kernel_rfl
@[go_sem] theorem ta_sequence_group (x : Value) (w : World) : (Instr.typeAssert (.iface 95 x) 62 115 true).run Tryz.prog w = .ok (.tuple #[.pointer none, .bool false]) w := by kernel_rfl
@[go_sem] theorem ta_sequence_lookaheadGroup (x : Value) (w : World) : (Instr.typeAssert (.iface 95 x) 62 56 true).run Tryz.prog w = .ok (.tuple #[.pointer none, .bool false]) w := by kernel_rfl
@[go_sem] theorem ta_capture_disjunction (x : Value) (w : World) : (Instr.typeAssert (.iface 101 x) 62 57 true).run Tryz.prog w = .ok (.tuple #[.pointer none, .bool false]) w := by kernel_rfl
@[go_sem] theorem ta_capture_union (x : Value) (w : World) : (Instr.typeAssert (.iface 101 x) 62 78 true).run Tryz.prog w = .ok (.tuple #[.pointer none, .bool false]) w := by kernel_rfl
@[go_sem] theorem ta_capture_custom (x : Value) (w : World) : (Instr.typeAssert (.iface 101 x) 62 86 true).run Tryz.prog w = .ok (.tuple #[.pointer none, .bool false]) w := by kernel_rfl
@[go_sem] theorem ta_capture_strct (x : Value) (w : World) : (Instr.typeAssert (.iface 101 x) 62 69 true).run Tryz.prog w = .ok (.tuple #[.pointer none, .bool false]) w := by kernel_rfl
@[go_sem] theorem ta_capture_sequence (x : Value) (w : World) : (Instr.typeAssert (.iface 101 x) 62 95 true).run Tryz.prog w = .ok (.tuple #[.pointer none, .bool false]) w := by kernel_rfl
@[go_sem] theorem ta_capture_parseable (x : Value) (w : World) : (Instr.typeAssert (.iface 101 x) 62 98 true).run Tryz.prog w = .ok (.tuple #[.pointer none, .bool false]) w := by kernel_rfl
@[go_sem] theorem ta_capture (q : Option Addr) (w : World) : (Instr.typeAssert (.iface 101 (.pointer q)) 62 101 true).run Tryz.prog w = .ok (.tuple #[.pointer q, .bool true]) w := by kernel_rfl
@[go_sem] theorem ta_capture_reference (x : Value) (w : World) : (Instr.typeAssert (.iface 101 x) 62 109 true).run Tryz.prog w = .ok (.tuple #[.pointer none, .bool false]) w := by kernel_rfl
@[go_sem] theorem ta_capture_negation (x : Value) (w : World) : (Instr.typeAssert (.iface 101 x) 62 112 true).run Tryz.prog w = .ok (.tuple #[.pointer none, .bool false]) w := by kernel_rfl
@[go_sem] theorem ta_capture_literal (x : Value) (w : World) : (Instr.typeAssert (.iface 101 x) 62 47 true).run Tryz.prog w = .ok (.tuple #[.pointer none, .bool false]) w := by kernel_rfl
@[go_sem] theorem ta_capture_group (x : Value) (w : World) : (Instr.typeAssert (.iface 101 x) 62 115 true).run Tryz.prog w = .ok (.tuple #[.pointer none, .bool false]) w := by kernel_rfl
@[go_sem] theorem ta_capture_lookaheadGroup (x : Value) (w : World) : (Instr.typeAssert (.iface 101 x) 62 56 true).run Tryz.prog w = .ok (.tuple #[.pointer none, .bool false]) w := by kernel_rfl
@[go_sem] theorem ta_reference_disjunction (x : Value) (w : World) : (Instr.typeAssert (.iface 109 x) 62 57 true).run Tryz.prog w = .ok (.tuple #[.pointer none, .bool false]) w := by kernel_rfl
@[go_sem] theorem ta_reference_union (x : Value) (w : World) : (Instr.typeAssert (.iface 109 x) 62 78 true).run Tryz.prog w = .ok (.tuple #[.pointer none, .bool false]) w := by kernel_rfl
@[go_sem] theorem ta_reference_custom (x : Value) (w : World) : (Instr.typeAssert (.iface 109 x) 62 86 true).run Tryz.prog w = .ok (.tuple #[.pointer none, .bool false]) w := by kernel_rfl
@[go_sem] theorem ta_reference_strct (x : Value) (w : World) : (Instr.typeAssert (.iface 109 x) 62 69 true).run Tryz.prog w = .ok (.tuple #[.pointer none, .bool false]) w := by kernel_rfl
@[go_sem] theorem ta_reference_sequence (x : Value) (w : World) : (Instr.typeAssert (.iface 109 x) 62 95 true).run Tryz.prog w = .ok (.tuple #[.pointer none, .bool false]) w := by kernel_rfl
@[go_sem] theorem ta_reference_parseable (x : Value) (w : World) : (Instr.typeAssert (.iface 109 x) 62 98 true).run Tryz.prog w = .ok (.tuple #[.pointer none, .bool false]) w := by kernel_rfl
@[go_sem] theorem ta_reference_capture (x : Value) (w : World) : (Instr.typeAssert (.iface 109 x) 62 101 true).run Tryz.prog w = .ok (.tuple #[.pointer none, .bool false]) w := by kernel_rfl
@[go_sem] theorem ta_reference (q : Option Addr) (w : World) : (Instr.typeAssert (.iface 109 (.pointer q)) 62 109 true).run Tryz.prog w = .ok (.tuple #[.pointer q, .bool true]) w := by kernel_rfl
@[go_sem] theorem ta_reference_negation (x : Value) (w : World) : (Instr.typeAssert (.iface 109 x) 62 112 true).run Tryz.prog w = .ok (.tuple #[.pointer none, .bool false]) w := by kernel_rfl
@[go_sem] theorem ta_reference_literal (x : Value) (w : World) : (Instr.typeAssert (.iface 109 x) 62 47 true).run Tryz.prog w = .ok (.tuple #[.pointer none, .bool false]) w := by kernel_rfl
@[go_sem] theorem ta_reference_group (x : Value) (w : World) : (Instr.typeAssert (.iface 109 x) 62 115 true).run Tryz.prog w = .ok (.tuple #[.pointer none, .bool false]) w := by kernel_rfl
@[go_sem] theorem ta_reference_lookaheadGroup (x : Value) (w : World) : (Instr.typeAssert (.iface 109 x) 62 56 true).run Tryz.prog w = .ok (.tuple #[.pointer none, .bool false]) w := by kernel_rfl
@[go_sem] theorem ta_literal_disjunction (x : Value) (w : World) : (Instr.typeAssert (.iface 47 x) 62 57 true).run Tryz.prog w = .ok (.tuple #[.pointer none, .bool false]) w := by kernel_rfl
@[go_sem] theorem ta_literal_union (x : Value) (w : World) : (Instr.typeAssert (.iface 47 x) 62 78 true).run Tryz.prog w = .ok (.tuple #[.pointer none, .bool false]) w := by kernel_rfl
@[go_sem] theorem ta_literal_custom (x : Value) (w : World) : (Instr.typeAssert (.iface 47 x) 62 86 true).run Tryz.prog w = .ok (.tuple #[.pointer none, .bool false]) w := by kernel_rfl
@[go_sem] theorem ta_literal_strct (x : Value) (w : World) : (Instr.typeAssert (.iface 47 x) 62 69 true).run Tryz.prog w = .ok (.tuple #[.pointer none, .bool false]) w := by kernel_rfl
@[go_sem] theorem ta_literal_sequence (x : Value) (w : World) : (Instr.typeAssert (.iface 47 x) 62 95 true).run Tryz.prog w = .ok (.tuple #[.pointer none, .bool false]) w := by kernel_rfl
@[go_sem] theorem ta_literal_parseable (x : Value) (w : World) : (Instr.typeAssert (.iface 47 x) 62 98 true).run Tryz.prog w = .ok (.tuple #[.pointer none, .bool false]) w := by kernel_rfl
@[go_sem] theorem ta_literal_capture (x : Value) (w : World) : (Instr.typeAssert (.iface 47 x) 62 101 true).run Tryz.prog w = .ok (.tuple #[.pointer none, .bool false]) w := by kernel_rfl
@[go_sem] theorem ta_literal_reference (x : Value) (w : World) : (Instr.typeAssert (.iface 47 x) 62 109 true).run Tryz.prog w = .ok (.tuple #[.pointer none, .bool false]) w := by kernel_rfl
@[go_sem] theorem ta_literal_negation (x : Value) (w : World) : (Instr.typeAssert (.iface 47 x) 62 112 true).run Tryz.prog w = .ok (.tuple #[.pointer none, .bool false]) w := by kernel_rfl
@[go_sem] theorem ta_literal (q : Option Addr) (w : World) : (Instr.typeAssert (.iface 47 (.pointer q)) 62 47 true).run Tryz.prog w = .ok (.tuple #[.pointer q, .bool true]) w := by kernel_rfl
@[go_sem] theorem ta_literal_group (x : Value) (w : World) : (Instr.typeAssert (.iface 47 x) 62 115 true).run Tryz.prog w = .ok (.tuple #[.pointer none, .bool false]) w := by kernel_rfl
@[go_sem] theorem ta_literal_lookaheadGroup (x : Value) (w : World) : (Instr.typeAssert (.iface 47 x) 62 56 true).run Tryz.prog w = .ok (.tuple #[.pointer none, .bool false]) w := by kernel_rfl
@[go_sem] theorem ta_group_disjunction (x : Value) (w : World) : (Instr.typeAssert (.iface 115 x) 62 57 true).run Tryz.prog w = .ok (.tuple #[.pointer none, .bool false]) w := by kernel_rfl
@[go_sem] theorem ta_group_union (x : Value) (w : World) : (Instr.typeAssert (.iface 115 x) 62 78 true).run Tryz.prog w = .ok (.tuple #[.pointer none, .bool false]) w := by kernel_rfl
@[go_sem] theorem ta_group_custom (x : Value) (w : World) : (Instr.typeAssert (.iface 115 x) 62 86 true).run Tryz.prog w = .ok (.tuple #[.pointer none, .bool false]) w := by kernel_rfl
@[go_sem] theorem ta_group_strct (x : Value) (w : World) : (Instr.typeAssert (.iface 115 x) 62 69 true).run Tryz.prog w = .ok (.tuple #[.pointer none, .bool false]) w := by kernel_rfl
@[go_sem] theorem ta_group_sequence (x : Value) (w : World) : (Instr.typeAssert (.iface 115 x) 62 95 true).run Tryz.prog w = .ok (.tuple #[.pointer none, .bool false]) w := by kernel_rfl
@[go_sem] theorem ta_group_parseable (x : Value) (w : World) : (Instr.typeAssert (.iface 115 x) 62 98 true).run Tryz.prog w = .ok (.tuple #[.pointer none, .bool false]) w := by kernel_rfl
@[go_sem] theorem ta_group_capture (x : Value) (w : World) : (Instr.typeAssert (.iface 115 x) 62 101 true).run Tryz.prog w = .ok (.tuple #[.pointer none, .bool false]) w := by kernel_rfl
@[go_sem] theorem ta_group_reference (x : Value) (w : World) : (Instr.typeAssert (.iface 115 x) 62 109 true).run Tryz.prog w = .ok (.tuple #[.pointer none, .bool false]) w := by kernel_rfl
@[go_sem] theorem ta_group_negation (x : Value) (w : World) : (Instr.typeAssert (.iface 115 x) 62 112 true).run Tryz.prog w = .ok (.tuple #[.pointer none, .bool false]) w := by kernel_rfl
@[go_sem] theorem ta_group_literal (x : Value) (w : World) : (Instr.typeAssert (.iface 115 x) 62 47 true).run Tryz.prog w = .ok (.tuple #[.pointer none, .bool false]) w := by kernel_rfl
@[go_sem] theorem ta_group (q : Option Addr) (w : World) : (Instr.typeAssert (.iface 115 (.pointer q)) 62 115 true).run Tryz.prog w = .ok (.tuple #[.pointer q, .bool true]) w := by kernel_rfl
@[go_sem] theorem ta_group_lookaheadGroup (x : Value) (w : World) : (Instr.typeAssert (.iface 115 x) 62 56 true).run Tryz.prog w = .ok (.tuple #[.pointer none, .bool false]) w := by kernel_rfl
@[go_sem] theorem ta_lookaheadGroup_disjunction (x : Value) (w : World) : (Instr.typeAssert (.iface 56 x) 62 57 true).run Tryz.prog w = .ok (.tuple #[.pointer none, .bool false]) w := by kernel_rfl
@[go_sem] theorem ta_lookaheadGroup_union (x : Value) (w : World) : (Instr.typeAssert (.iface 56 x) 62 78 true).run Tryz.prog w = .ok (.tuple #[.pointer none, .bool false]) w := by kernel_rfl
@[go_sem] theorem ta_lookaheadGroup_custom (x : Value) (w : World) : (Instr.typeAssert (.iface 56 x) 62 86 true).run Tryz.prog w = .ok (.tuple #[.pointer none, .bool false]) w := by kernel_rfl
@[go_sem] theorem ta_lookaheadGroup_strct (x : Value) (w : World) : (Instr.typeAssert (.iface 56 x) 62 69 true).run Tryz.prog w = .ok (.tuple #[.pointer none, .bool false]) w := by kernel_rfl
@[go_sem] theorem ta_lookaheadGroup_sequence (x : Value) (w : World) : (Instr.typeAssert (.iface 56 x) 62 95 true).run Tryz.prog w = .ok (.tuple #[.pointer none, .bool false]) w := by kernel_rfl
@[go_sem] theorem ta_lookaheadGroup_parseable (x : Value) (w : World) : (Instr.typeAssert (.iface 56 x) 62 98 true).run Tryz.prog w = .ok (.tuple #[.pointer none, .bool false]) w := by kernel_rfl
@[go_sem] theorem ta_lookaheadGroup_capture (x : Value) (w : World) : (Instr.typeAssert (.iface 56 x) 62 101 true).run Tryz.prog w = .ok (.tuple #[.pointer none, .bool false]) w := by kernel_rfl
@[go_sem] theorem ta_lookaheadGroup_reference (x : Value) (w : World) : (Instr.typeAssert (.iface 56 x) 62 109 true).run Tryz.prog w = .ok (.tuple #[.pointer none, .bool false]) w := by kernel_rfl
@[go_sem] theorem ta_lookaheadGroup_negation (x : Value) (w : World) : (Instr.typeAssert (.iface 56 x) 62 112 true).run Tryz.prog w = .ok (.tuple #[.pointer none, .bool false]) w := by kernel_rfl
@[go_sem] theorem ta_lookaheadGroup_literal (x : Value) (w : World) : (Instr.typeAssert (.iface 56 x) 62 47 true).run Tryz.prog w = .ok (.tuple #[.pointer none, .bool false]) w := by kernel_rfl
@[go_sem] theorem ta_lookaheadGroup_group (x : Value) (w : World) : (Instr.typeAssert (.iface 56 x) 62 115 true).run Tryz.prog w = .ok (.tuple #[.pointer none, .bool false]) w := by kernel_rfl
@[go_sem] theorem ta_lookaheadGroup (q : Option Addr) (w : World) : (Instr.typeAssert (.iface 56 (.pointer q)) 62 56 true).run Tryz.prog w = .ok (.tuple #[.pointer q, .bool true]) w := by kernel_rfl
end Go.Proofs.YtiofodmlgneieaaGreatFmt
