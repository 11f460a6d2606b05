/- What a type switch over a node of the grammar answers, type by type: closed facts of the program. Conditions: the dump is cut with -reflectrows -leanrows. -/
import Derived.Test.YtfmlfaankmnfjaaGreatFmtRows
import Derived.WalkKit
namespace Go.Proofs.YtfmlfaankmnfjaaGreatFmt
@[go_sem] theorem ta_custom_disjunction (x : Value) (w : World) : (Instr.typeAssert (.iface 66 x) 61 41 true).run Tryz.prog w = .ok (.tuple #[.pointer none, .bool false]) w := by kernel_rfl
@[go_sem] theorem ta_custom_union (x : Value) (w : World) : (Instr.typeAssert (.iface 66 x) 61 96 true).run Tryz.prog w = .ok (.tuple #[.pointer none, .bool false]) w := by kernel_rfl
@[go_sem] theorem ta_custom (q : Option Addr) (w : World) : (Instr.typeAssert (.iface 66 (.pointer q)) 61 66 true).run Tryz.prog w = .ok (.tuple #[.pointer q, .bool true]) w := by kernel_rfl
@[go_sem] theorem ta_custom_strct (x : Value) (w : World) : (Instr.typeAssert (.iface 66 x) 61 75 true).run Tryz.prog w = .ok (.tuple #[.pointer none, .bool false]) w := by kernel_rfl
@[go_sem] theorem ta_custom_sequence (x : Value) (w : World) : (Instr.typeAssert (.iface 66 x) 61 46 true).run Tryz.prog w = .ok (.tuple #[.pointer none, .bool false]) w := by kernel_rfl
@[go_sem] theorem ta_custom_parseable (x : Value) (w : World) : (Instr.typeAssert (.iface 66 x) 61 105 true).run Tryz.prog w = .ok (.tuple #[.pointer none, .bool false]) w := by kernel_rfl
@[go_sem] theorem ta_custom_capture (x : Value) (w : World) : (Instr.typeAssert (.iface 66 x) 61 108 true).run Tryz.prog w = .ok (.tuple #[.pointer none, .bool false]) w := by kernel_rfl
@[go_sem] theorem ta_custom_reference (x : Value) (w : World) : (Instr.typeAssert (.iface 66 x) 61 44 true).run Tryz.prog w = .ok (.tuple #[.pointer none, .bool false]) w := by kernel_rfl
@[go_sem] theorem ta_custom_negation (x : Value) (w : World) : (Instr.typeAssert (.iface 66 x) 61 116 true).run Tryz.prog w = .ok (.tuple #[.pointer none, .bool false]) w := by kernel_rfl
@[go_sem] theorem ta_custom_literal (x : Value) (w : World) : (Instr.typeAssert (.iface 66 x) 61 119 true).run Tryz.prog w = .ok (.tuple #[.pointer none, .bool false]) w := by kernel_rfl
@[go_sem] theorem ta_custom_group (x : Value) (w : World) : (Instr.typeAssert (.iface 66 x) 61 122 true).run Tryz.prog w = .ok (.tuple #[.pointer none, .bool false]) w := by kernel_rfl
@[go_sem] theorem ta_custom_lookaheadGroup (x : Value) (w : World) : (Instr.typeAssert (.iface 66 x) 61 128 true).run Tryz.prog w = .ok (.tuple #[.pointer none, .bool false]) w := by kernel_rfl
@[go_sem] theorem ta_disjunction (q : Option Addr) (w : World) : (Instr.typeAssert (.iface 41 (.pointer q)) 61 41 true).run Tryz.prog w = .ok (.tuple #[.pointer q, .bool true]) w := by kernel_rfl
@[go_sem] theorem ta_disjunction_union (x : Value) (w : World) : (Instr.typeAssert (.iface 41 x) 61 96 true).run Tryz.prog w = .ok (.tuple #[.pointer none, .bool false]) w := by kernel_rfl
@[go_sem] theorem ta_disjunction_custom (x : Value) (w : World) : (Instr.typeAssert (.iface 41 x) 61 66 true).run Tryz.prog w = .ok (.tuple #[.pointer none, .bool false]) w := by kernel_rfl
@[go_sem] theorem ta_disjunction_strct (x : Value) (w : World) : (Instr.typeAssert (.iface 41 x) 61 75 true).run Tryz.prog w = .ok (.tuple #[.pointer none, .bool false]) w := by kernel_rfl
@[go_sem] theorem ta_disjunction_sequence (x : Value) (w : World) : (Instr.typeAssert (.iface 41 x) 61 46 true).run Tryz.prog w = .ok (.tuple #[.pointer none, .bool false]) w := by kernel_rfl
@[go_sem] theorem ta_disjunction_parseable (x : Value) (w : World) : (Instr.typeAssert (.iface 41 x) 61 105 true).run Tryz.prog w = .ok (.tuple #[.pointer none, .bool false]) w := by kernel_rfl
@[go_sem] theorem ta_disjunction_capture (x : Value) (w : World) : (Instr.typeAssert (.iface 41 x) 61 108 true).run Tryz.prog w = .ok (.tuple #[.pointer none, .bool false]) w := by kernel_rfl
@[go_sem] theorem ta_disjunction_reference (x : Value) (w : World) : (Instr.typeAssert (.iface 41 x) 61 44 true).run Tryz.prog w = .ok (.tuple #[.pointer none, .bool false]) w := by kernel_rfl
@[go_sem] theorem ta_disjunction_negation (x : Value) (w : World) : (Instr.typeAssert (.iface 41 x) 61 116 true).run Tryz.prog w = .ok (.tuple #[.pointer none, .bool false]) w := by kernel_rfl
@[go_sem] theorem ta_disjunction_literal (x : Value) (w : World) : (Instr.typeAssert (.iface 41 x) 61 119 true).run Tryz.prog w = .ok (.tuple #[.pointer none, .bool false]) w := by kernel_rfl
@[go_sem] theorem ta_disjunction_group (x : Value) (w : World) : (Instr.typeAssert (.iface 41 x) 61 122 true).run Tryz.prog w = .ok (.tuple #[.pointer none, .bool false]) w := by kernel_rfl
@[go_sem] theorem ta_disjunction_lookaheadGroup (x : Value) (w : World) : (Instr.typeAssert (.iface 41 x) 61 128 true).run Tryz.prog w = .ok (.tuple #[.pointer none, .bool false]) w := by kernel_rfl
@[go_sem] theorem ta_sequence_disjunction (x : Value) (w : World) : (Instr.typeAssert (.iface 46 x) 61 41 true).run Tryz.prog w = .ok (.tuple #[.pointer none, .bool false]) w := by kernel_rfl
@[go_sem] theorem ta_sequence_union (x : Value) (w : World) : (Instr.typeAssert (.iface 46 x) 61 96 true).run Tryz.prog w = .ok (.tuple #[.pointer none, .bool false]) w := by kernel_rfl
@[go_sem] theorem ta_sequence_custom (x : Value) (w : World) : (Instr.typeAssert (.iface 46 x) 61 66 true).run Tryz.prog w = .ok (.tuple #[.pointer none, .bool false]) w := by kernel_rfl
@[go_sem] theorem ta_sequence_strct (x : Value) (w : World) : (Instr.typeAssert (.iface 46 x) 61 75 true).run Tryz.prog w = .ok (.tuple #[.pointer none, .bool false]) w := by kernel_rfl
@[go_sem] theorem ta_sequence (q : Option Addr) (w : World) : (Instr.typeAssert (.iface 46 (.pointer q)) 61 46 true).run Tryz.prog w = .ok (.tuple #[.pointer q, .bool true]) w := by kernel_rfl
@[go_sem] theorem ta_sequence_parseable (x : Value) (w : World) : (Instr.typeAssert (.iface 46 x) 61 105 true).run Tryz.prog w = .ok (.tuple #[.pointer none, .bool false]) w := by kernel_rfl
@[go_sem] theorem ta_sequence_capture (x : Value) (w : World) : (Instr.typeAssert (.iface 46 x) 61 108 true).run Tryz.prog w = .ok (.tuple #[.pointer none, .bool false]) w := by kernel_rfl
@[go_sem] theorem ta_sequence_reference (x : Value) (w : World) : (Instr.typeAssert (.iface 46 x) 61 44 true).run Tryz.prog w = .ok (.tuple #[.pointer none, .bool false]) w := by kernel_rfl
@[go_sem] theorem ta_sequence_negation (x : Value) (w : World) : (Instr.typeAssert (.iface 46 x) 61 116 true).run Tryz.prog w = .ok (.tuple #[.pointer none, .bool false]) w := by kernel_rfl
@[go_sem] theorem ta_sequence_literal (x : Value) (w : World) : (Instr.typeAssert (.iface 46 x) 61 119 true).run Tryz.prog w = .ok (.tuple #[.pointer none, .bool false]) w := by kernel_rfl
@[go_sem] theorem ta_sequence_group (x : Value) (w : World) : (Instr.typeAssert (.iface 46 x) 61 122 true).run Tryz.prog w = .ok (.tuple #[.pointer none, .bool false]) w := by kernel_rfl
@[go_sem] theorem ta_sequence_lookaheadGroup (x : Value) (w : World) : (Instr.typeAssert (.iface 46 x) 61 128 true).run Tryz.prog w = .ok (.tuple #[.pointer none, .bool false]) w := by kernel_rfl
@[go_sem] theorem ta_capture_disjunction (x : Value) (w : World) : (Instr.typeAssert (.iface 108 x) 61 41 true).run Tryz.prog w = .ok (.tuple #[.pointer none, .bool false]) w := by kernel_rfl
@[go_sem] theorem ta_capture_union (x : Value) (w : World) : (Instr.typeAssert (.iface 108 x) 61 96 true).run Tryz.prog w = .ok (.tuple #[.pointer none, .bool false]) w := by kernel_rfl
@[go_sem] theorem ta_capture_custom (x : Value) (w : World) : (Instr.typeAssert (.iface 108 x) 61 66 true).run Tryz.prog w = .ok (.tuple #[.pointer none, .bool false]) w := by kernel_rfl
@[go_sem] theorem ta_capture_strct (x : Value) (w : World) : (Instr.typeAssert (.iface 108 x) 61 75 true).run Tryz.prog w = .ok (.tuple #[.pointer none, .bool false]) w := by kernel_rfl
@[go_sem] theorem ta_capture_sequence (x : Value) (w : World) : (Instr.typeAssert (.iface 108 x) 61 46 true).run Tryz.prog w = .ok (.tuple #[.pointer none, .bool false]) w := by kernel_rfl
@[go_sem] theorem ta_capture_parseable (x : Value) (w : World) : (Instr.typeAssert (.iface 108 x) 61 105 true).run Tryz.prog w = .ok (.tuple #[.pointer none, .bool false]) w := by kernel_rfl
@[go_sem] theorem ta_capture (q : Option Addr) (w : World) : (Instr.typeAssert (.iface 108 (.pointer q)) 61 108 true).run Tryz.prog w = .ok (.tuple #[.pointer q, .bool true]) w := by kernel_rfl
@[go_sem] theorem ta_capture_reference (x : Value) (w : World) : (Instr.typeAssert (.iface 108 x) 61 44 true).run Tryz.prog w = .ok (.tuple #[.pointer none, .bool false]) w := by kernel_rfl
@[go_sem] theorem ta_capture_negation (x : Value) (w : World) : (Instr.typeAssert (.iface 108 x) 61 116 true).run Tryz.prog w = .ok (.tuple #[.pointer none, .bool false]) w := by kernel_rfl
@[go_sem] theorem ta_capture_literal (x : Value) (w : World) : (Instr.typeAssert (.iface 108 x) 61 119 true).run Tryz.prog w = .ok (.tuple #[.pointer none, .bool false]) w := by kernel_rfl
@[go_sem] theorem ta_capture_group (x : Value) (w : World) : (Instr.typeAssert (.iface 108 x) 61 122 true).run Tryz.prog w = .ok (.tuple #[.pointer none, .bool false]) w := by kernel_rfl
@[go_sem] theorem ta_capture_lookaheadGroup (x : Value) (w : World) : (Instr.typeAssert (.iface 108 x) 61 128 true).run Tryz.prog w = .ok (.tuple #[.pointer none, .bool false]) w := by kernel_rfl
@[go_sem] theorem ta_reference_disjunction (x : Value) (w : World) : (Instr.typeAssert (.iface 44 x) 61 41 true).run Tryz.prog w = .ok (.tuple #[.pointer none, .bool false]) w := by kernel_rfl
@[go_sem] theorem ta_reference_union (x : Value) (w : World) : (Instr.typeAssert (.iface 44 x) 61 96 true).run Tryz.prog w = .ok (.tuple #[.pointer none, .bool false]) w := by kernel_rfl
@[go_sem] theorem ta_reference_custom (x : Value) (w : World) : (Instr.typeAssert (.iface 44 x) 61 66 true).run Tryz.prog w = .ok (.tuple #[.pointer none, .bool false]) w := by kernel_rfl
@[go_sem] theorem ta_reference_strct (x : Value) (w : World) : (Instr.typeAssert (.iface 44 x) 61 75 true).run Tryz.prog w = .ok (.tuple #[.pointer none, .bool false]) w := by kernel_rfl
@[go_sem] theorem ta_reference_sequence (x : Value) (w : World) : (Instr.typeAssert (.iface 44 x) 61 46 true).run Tryz.prog w = .ok (.tuple #[.pointer none, .bool false]) w := by kernel_rfl
@[go_sem] theorem ta_reference_parseable (x : Value) (w : World) : (Instr.typeAssert (.iface 44 x) 61 105 true).run Tryz.prog w = .ok (.tuple #[.pointer none, .bool false]) w := by kernel_rfl
@[go_sem] theorem ta_reference_capture (x : Value) (w : World) : (Instr.typeAssert (.iface 44 x) 61 108 true).run Tryz.prog w = .ok (.tuple #[.pointer none, .bool false]) w := by kernel_rfl
@[go_sem] theorem ta_reference (q : Option Addr) (w : World) : (Instr.typeAssert (.iface 44 (.pointer q)) 61 44 true).run Tryz.prog w = .ok (.tuple #[.pointer q, .bool true]) w := by kernel_rfl
@[go_sem] theorem ta_reference_negation (x : Value) (w : World) : (Instr.typeAssert (.iface 44 x) 61 116 true).run Tryz.prog w = .ok (.tuple #[.pointer none, .bool false]) w := by kernel_rfl
@[go_sem] theorem ta_reference_literal (x : Value) (w : World) : (Instr.typeAssert (.iface 44 x) 61 119 true).run Tryz.prog w = .ok (.tuple #[.pointer none, .bool false]) w := by kernel_rfl
@[go_sem] theorem ta_reference_group (x : Value) (w : World) : (Instr.typeAssert (.iface 44 x) 61 122 true).run Tryz.prog w = .ok (.tuple #[.pointer none, .bool false]) w := by kernel_rfl
@[go_sem] theorem ta_reference_lookaheadGroup (x : Value) (w : World) : (Instr.typeAssert (.iface 44 x) 61 128 true).run Tryz.prog w = .ok (.tuple #[.pointer none, .bool false]) w := by kernel_rfl
@[go_sem] theorem ta_literal_disjunction (x : Value) (w : World) : (Instr.typeAssert (.iface 119 x) 61 41 true).run Tryz.prog w = .ok (.tuple #[.pointer none, .bool false]) w := by kernel_rfl
@[go_sem] theorem ta_literal_union (x : Value) (w : World) : (Instr.typeAssert (.iface 119 x) 61 96 true).run Tryz.prog w = .ok (.tuple #[.pointer none, .bool false]) w := by kernel_rfl
@[go_sem] theorem ta_literal_custom (x : Value) (w : World) : (Instr.typeAssert (.iface 119 x) 61 66 true).run Tryz.prog w = .ok (.tuple #[.pointer none, .bool false]) w := by kernel_rfl
@[go_sem] theorem ta_literal_strct (x : Value) (w : World) : (Instr.typeAssert (.iface 119 x) 61 75 true).run Tryz.prog w = .ok (.tuple #[.pointer none, .bool false]) w := by kernel_rfl
@[go_sem] theorem ta_literal_sequence (x : Value) (w : World) : (Instr.typeAssert (.iface 119 x) 61 46 true).run Tryz.prog w = .ok (.tuple #[.pointer none, .bool false]) w := by kernel_rfl
@[go_sem] theorem ta_literal_parseable (x : Value) (w : World) : (Instr.typeAssert (.iface 119 x) 61 105 true).run Tryz.prog w = .ok (.tuple #[.pointer none, .bool false]) w := by kernel_rfl
@[go_sem] theorem ta_literal_capture (x : Value) (w : World) : (Instr.typeAssert (.iface 119 x) 61 108 true).run Tryz.prog w = .ok (.tuple #[.pointer none, .bool false]) w := by kernel_rfl
@[go_sem] theorem ta_literal_reference (x : Value) (w : World) : (Instr.typeAssert (.iface 119 x) 61 44 true).run Tryz.prog w = .ok (.tuple #[.pointer none, .bool false]) w := by kernel_rfl
@[go_sem] theorem ta_literal_negation (x : Value) (w : World) : (Instr.typeAssert (.iface 119 x) 61 116 true).run Tryz.prog w = .ok (.tuple #[.pointer none, .bool false]) w := by kernel_rfl
@[go_sem] theorem ta_literal (q : Option Addr) (w : World) : (Instr.typeAssert (.iface 119 (.pointer q)) 61 119 true).run Tryz.prog w = .ok (.tuple #[.pointer q, .bool true]) w := by kernel_rfl
@[go_sem] theorem ta_literal_group (x : Value) (w : World) : (Instr.typeAssert (.iface 119 x) 61 122 true).run Tryz.prog w = .ok (.tuple #[.pointer none, .bool false]) w := by kernel_rfl
@[go_sem] theorem ta_literal_lookaheadGroup (x : Value) (w : World) : (Instr.typeAssert (.iface 119 x) 61 128 true).run Tryz.prog w = .ok (.tuple #[.pointer none, .bool false]) w := by kernel_rfl
@[go_sem] theorem ta_group_disjunction (x : Value) (w : World) : (Instr.typeAssert (.iface 122 x) 61 41 true).run Tryz.prog w = .ok (.tuple #[.pointer none, .bool false]) w := by kernel_rfl
@[go_sem] theorem ta_group_union (x : Value) (w : World) : (Instr.typeAssert (.iface 122 x) 61 96 true).run Tryz.prog w = .ok (.tuple #[.pointer none, .bool false]) w := by kernel_rfl
@[go_sem] theorem ta_group_custom (x : Value) (w : World) : (Instr.typeAssert (.iface 122 x) 61 66 true).run Tryz.prog w = .ok (.tuple #[.pointer none, .bool false]) w := by kernel_rfl
@[go_sem] theorem ta_group_strct (x : Value) (w : World) : (Instr.typeAssert (.iface 122 x) 61 75 true).run Tryz.prog w = .ok (.tuple #[.pointer none, .bool false]) w := by kernel_rfl
@[go_sem] theorem ta_group_sequence (x : Value) (w : World) : (Instr.typeAssert (.iface 122 x) 61 46 true).run Tryz.prog w = .ok (.tuple #[.pointer none, .bool false]) w := by kernel_rfl
@[go_sem] theorem ta_group_parseable (x : Value) (w : World) : (Instr.typeAssert (.iface 122 x) 61 105 true).run Tryz.prog w = .ok (.tuple #[.pointer none, .bool false]) w := by kernel_rfl
@[go_sem] theorem ta_group_capture (x : Value) (w : World) : (Instr.typeAssert (.iface 122 x) 61 108 true).run Tryz.prog w = .ok (.tuple #[.pointer none, .bool false]) w := by kernel_rfl
@[go_sem] theorem ta_group_reference (x : Value) (w : World) : (Instr.typeAssert (.iface 122 x) 61 44 true).run Tryz.prog w = .ok (.tuple #[.pointer none, .bool false]) w := by kernel_rfl
@[go_sem] theorem ta_group_negation (x : Value) (w : World) : (Instr.typeAssert (.iface 122 x) 61 116 true).run Tryz.prog w = .ok (.tuple #[.pointer none, .bool false]) w := by kernel_rfl
@[go_sem] theorem ta_group_literal (x : Value) (w : World) : (Instr.typeAssert (.iface 122 x) 61 119 true).run Tryz.prog w = .ok (.tuple #[.pointer none, .bool false]) w := by kernel_rfl
@[go_sem] theorem ta_group (q : Option Addr) (w : World) : (Instr.typeAssert (.iface 122 (.pointer q)) 61 122 true).run Tryz.prog w = .ok (.tuple #[.pointer q, .bool true]) w := by kernel_rfl
@[go_sem] theorem ta_group_lookaheadGroup (x : Value) (w : World) : (Instr.typeAssert (.iface 122 x) 61 128 true).run Tryz.prog w = .ok (.tuple #[.pointer none, .bool false]) w := by kernel_rfl
@[go_sem] theorem ta_lookaheadGroup_disjunction (x : Value) (w : World) : (Instr.typeAssert (.iface 128 x) 61 41 true).run Tryz.prog w = .ok (.tuple #[.pointer none, .bool false]) w := by kernel_rfl
@[go_sem] theorem ta_lookaheadGroup_union (x : Value) (w : World) : (Instr.typeAssert (.iface 128 x) 61 96 true).run Tryz.prog w = .ok (.tuple #[.pointer none, .bool false]) w := by kernel_rfl
@[go_sem] theorem ta_lookaheadGroup_custom (x : Value) (w : World) : (Instr.typeAssert (.iface 128 x) 61 66 true).run Tryz.prog w = .ok (.tuple #[.pointer none, .bool false]) w := by kernel_rfl
@[go_sem] theorem ta_lookaheadGroup_strct (x : Value) (w : World) : (Instr.typeAssert (.iface 128 x) 61 75 true).run Tryz.prog w = .ok (.tuple #[.pointer none, .bool false]) w := by kernel_rfl
@[go_sem] theorem ta_lookaheadGroup_sequence (x : Value) (w : World) : (Instr.typeAssert (.iface 128 x) 61 46 true).run Tryz.prog w = .ok (.tuple #[.pointer none, .bool false]) w := by kernel_rfl
@[go_sem] theorem ta_lookaheadGroup_parseable (x : Value) (w : World) : (Instr.typeAssert (.iface 128 x) 61 105 true).run Tryz.prog w = .ok (.tuple #[.pointer none, .bool false]) w := by kernel_rfl
@[go_sem] theorem ta_lookaheadGroup_capture (x : Value) (w : World) : (Instr.typeAssert (.iface 128 x) 61 108 true).run Tryz.prog w = .ok (.tuple #[.pointer none, .bool false]) w := by kernel_rfl
@[go_sem] theorem ta_lookaheadGroup_reference (x : Value) (w : World) : (Instr.typeAssert (.iface 128 x) 61 44 true).run Tryz.prog w = .ok (.tuple #[.pointer none, .bool false]) w := by kernel_rfl
@[go_sem] theorem ta_lookaheadGroup_negation (x : Value) (w : World) : (Instr.typeAssert (.iface 128 x) 61 116 true).run Tryz.prog w = .ok (.tuple #[.pointer none, .bool false]) w := by kernel_rfl
@[go_sem] theorem ta_lookaheadGroup_literal (x : Value) (w : World) : (Instr.typeAssert (.iface 128 x) 61 119 true).run Tryz.prog w = .ok (.tuple #[.pointer none, .bool false]) w := by kernel_rfl
@[go_sem] theorem ta_lookaheadGroup_group (x : Value) (w : World) : (Instr.typeAssert (.iface 128 x) 61 122 true).run Tryz.prog w = .ok (.tuple #[.pointer none, .bool false]) w := by kernel_rfl
@[go_sem] theorem ta_lookaheadGroup (q : Option Addr) (w : World) : (Instr.typeAssert (.iface 128 (.pointer q)) 61 128 true).run Tryz.prog w = .ok (.tuple #[.pointer q, .bool true]) w := by kernel_rfl
end Go.Proofs.YtfmlfaankmnfjaaGreatFmt
