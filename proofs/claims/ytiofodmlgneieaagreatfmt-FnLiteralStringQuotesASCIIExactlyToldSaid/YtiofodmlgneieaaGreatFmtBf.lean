/- A slice of bytes of the call's own that is appended to: what it holds; the laws of append and of the conversion to a string. The seat's flags: -reflectrows -leanrows (see REPORT.md, TRANSLATOR). -/
import Derived.Test.YtiofodmlgneieaaGreatFmtRows
import Derived.WalkKit
import Derived.WalkSpells
import Derived.Outline
import Derived.OneCell
import Derived.Below
import Derived.OwnWalk
import Derived.Lib.Hide
import Derived.Lib.AppendStr
import Derived.Lib.SmallJoins
import Derived.Laws.MakeOwn
import Derived.Laws.OwnMore
import Derived.Laws.IdiomStrings
namespace Go.Proofs.YtiofodmlgneieaaGreatFmt
open Go.RowKit
def cellsOf (l : List UInt8) : List Value := l.map fun b => Value.int .u8 (b.toNat : Int)
/-- v is a slice of bytes in memory of the call's own; it holds l; below B the world is as w0 was. -/
def Buf (B : Nat) (w0 w : World) (v : Value) (l : List UInt8) : Prop := w.ownsRow B 5 1 v l.length (cellsOf l) ∧ Below B w0 w ∧ B ≤ w.heap.size
theorem infoByte : (Tryz.prog.info? 5).map (fun i => (i.zero, i.size, i.bytes)) = some (some (.int .u8 0), 1, 1) := by kernel_rfl
theorem Buf.carry {B : Nat} {w0 w w' : World} {v : Value} {l : List UInt8} (h : Buf B w0 w v l) (hb : Below w.heap.size w w') : Buf B w0 w' v l :=
  ⟨h.1.kept (row := none) ⟨hb.os, hb.tape, hb.output, hb.size, fun j hj _ => hb.block j hj⟩ (by cases hv : v.ownBlock <;> simp), h.2.1.trans (hb.mono h.2.2), Nat.le_trans h.2.2 hb.size⟩
theorem Buf.draw {B : Nat} {w0 w : World} {v : Value} {l : List UInt8} (h : Buf B w0 w v l) : Buf B w0 w.drew v l := ⟨h.1.drew, h.2.1.drew, h.2.2⟩
theorem cell_new (w : World) (cs : Array Value) (t : TypeId) (j : Nat) (u : Value) (h : cs[j]? = some u) : (w.alloc (.cells cs t)).cell? ⟨w.heap.size, j, none⟩ = some u := by
  have hc := heap_alloc_new w (.cells cs t)
  unfold World.cell?
  simp only [hc]
  exact h
/-- append of some bytes, laid in a new block just before. -/
theorem buf_add {ops : Array Oper} {rest : List Oper} {o : Oper} {a : Act} {Q : Exit → Act → World → Prop} {B : Nat} {w0 w : World} {v : Value} {l : List UInt8} (hgd : o.guard = none) (s x : Operand)
    (ho : o.op = .call { callee := .builtin .append, args := #[s, x], argTypes := #[35, 35] })
    (news : List UInt8) (cs : Array Value) (hcs : cs.toList = cellsOf news) (m : Nat) (hm : news.length = m)
    (hs : a.eval s = v) (hx : a.eval x = .slice (some ⟨w.heap.size, 0, none⟩) m m) (hB : Buf B w0 w v l) (hl : l.length + m ≤ 140737488355328)
    (h : ∀ v' w', Buf B w0 w' v' (l ++ news) → wpList Tryz.prog ops Q rest (a.put o.dst v') w') : wpList Tryz.prog ops Q (o :: rest) a (w.alloc (.cells cs 5)) := by
  obtain ⟨i0, hi, hz0, hz1, hz2⟩ := info_parts infoByte
  refine wpList_append_own _ hgd s x 35 ho B 5 i0 (.int .u8 0) 1 1 Tryz.underlying35 hi hz0 hz1 hz2 rfl (by decide) v l.length (cellsOf l) hs (hB.1.alloc _) ⟨w.heap.size, 0, none⟩ m m (cellsOf news) hx ?_ ?_ ?_ ?_ ?_ ?_ ?_
  · simp [cellsOf, hm]
  · intro j u hj
    have e : (⟨w.heap.size, 0, none⟩ : Addr).add j = ⟨w.heap.size, j, none⟩ := by unfold Addr.add; split <;> simp_all
    rw [e]
    exact cell_new w cs _ j u (by rw [← hcs] at hj; simpa using hj)
  · intro u hu
    simp only [cellsOf, List.mem_map] at hu
    obtain ⟨b, _, rfl⟩ := hu
    rfl
  · unfold maxLen; omega
  · omega
  · have := hB.2.2; simp; omega
  · intro v' w' hown hg _
    refine h v' w' ⟨?_, ?_, ?_⟩
    · rw [List.length_append, hm]
      simpa [cellsOf] using hown
    · exact (hB.2.1.alloc hB.2.2 _).grown hg (by have := hB.2.2; simp; omega) (fun k hk => (hB.1.lt k hk).1)
    · have h1 := hg.size; have h2 := hB.2.2; simp at h1; omega
/-- append of a string's bytes. -/
theorem buf_str {ops : Array Oper} {rest : List Oper} {o : Oper} {a : Act} {Q : Exit → Act → World → Prop} {B : Nat} {w0 w : World} {v : Value} {l : List UInt8} (hgd : o.guard = none) (sl x : Operand) (s : ByteArray)
    (ho : o.op = .call { callee := .builtin .append, args := #[sl, x], argTypes := #[35, 9] })
    (hs : a.eval sl = v) (hx : a.eval x = .string s) (hB : Buf B w0 w v l) (hl : l.length + s.size ≤ 140737488355328)
    (h : ∀ v' w', Buf B w0 w' v' (l ++ s.data.toList) → wpList Tryz.prog ops Q rest (a.put o.dst v') w') : wpList Tryz.prog ops Q (o :: rest) a w := by
  obtain ⟨i0, hi, hz0, hz1, hz2⟩ := info_parts infoByte
  refine Lib.wpList_append_own_string w hgd sl x 35 9 ho B 5 i0 Tryz.underlying35 Tryz.underlying9 hi hz0 hz1 hz2 v l.length (cellsOf l) hs hB.1 s hx (by unfold maxLen; omega) (by omega) hB.2.2 ?_
  intro v' w' hown hg _
  refine h v' w' ⟨?_, ?_, ?_⟩
  · have e : (l ++ s.data.toList).length = l.length + s.size := by rw [List.length_append]; rfl
    rw [e]
    simpa [cellsOf, Lib.strCells] using hown
  · exact hB.2.1.grown hg hB.2.2 (fun k hk => (hB.1.lt k hk).1)
  · have h1 := hg.size; have h2 := hB.2.2; omega
theorem run_no_bytes (w : World) (ao : Option Addr) (cap : Nat) : (convert 35 9 (.slice ao 0 cap)).run Tryz.prog w = .ok (.string ⟨#[]⟩) w := by
  rw [run_convert_bytes_string w 35 9 5 ao 0 cap Tryz.underlying35 Tryz.underlying5 Tryz.underlying9]
  cases ao <;> rfl
/-- string(v). -/
theorem buf_text {B : Nat} {w0 w : World} {v : Value} {l : List UInt8} (h : Buf B w0 w v l) : (convert 35 9 v).run Tryz.prog w = .ok (.string ⟨l.toArray⟩) w := by
  rcases Joins.ownsRow_forms h.1 with ⟨rfl, hn⟩ | ⟨g, cap, rfl⟩
  · have : l = [] := List.eq_nil_of_length_eq_zero hn
    subst this
    exact run_no_bytes w none 0
  · exact run_convert_bytes_back (P := Tryz.prog) w 35 9 5 ⟨g, 0, none⟩ cap l Tryz.underlying35 Tryz.underlying5 Tryz.underlying9 (fun j hj => h.1.cells (g := g) rfl j _ (by simp [cellsOf, hj]))
theorem mk0 (C : Int) (n : Nat) (hC : C = (n : Int)) (hn : n ≤ 281474976710656) (w : World) :
    (Instr.makeSlice 35 (.int .i64 0) (.int .i64 C)).run Tryz.prog w = .ok (.slice (some ⟨w.heap.size, 0, none⟩) 0 n) (w.alloc (.cells (madeCells #[.int .u8 0] n) 5)) := by
  obtain ⟨i0, hi, hz0, hz1, hz2⟩ := info_parts infoByte
  subst hC
  have := run_make (P := Tryz.prog) w 35 5 i0 (.int .u8 0) Tryz.underlying35 hi hz0 .i64 .i64 0 (n : Int) (by omega) (by omega) (by rw [hz2]; omega) (by omega)
  rw [hz1] at this
  have hz : (Value.int IntKind.u8 0).cells = #[.int .u8 0] := rfl
  rw [hz] at this
  simpa using this
theorem mk0_buf (w : World) (n : Nat) (hn : n ≤ 281474976710656) : Buf w.heap.size w (w.alloc (.cells (madeCells #[.int .u8 0] n) 5)) (.slice (some ⟨w.heap.size, 0, none⟩) 0 n) [] :=
  ⟨World.ownsRow_made w _ n (Nat.le_refl _) (by unfold maxLen; omega) (by simp [madeCells]), (Below.refl _ w).alloc (Nat.le_refl _) _, by simp⟩
theorem lit_buf (w : World) (cs : Array Value) (n : Nat) (l : List UInt8) (hcs : cs.toList = cellsOf l) (hl : l.length = n) (hn : n ≤ 281474976710656) : Buf w.heap.size w (w.alloc (.cells cs 5)) (.slice (some ⟨w.heap.size, 0, none⟩) n n) l := by
  refine ⟨?_, (Below.refl _ w).alloc (Nat.le_refl _) _, by simp⟩
  rw [← hcs, hl]
  have e : cs.size = n * 1 := by rw [← Array.length_toList, hcs]; simp [cellsOf, hl]
  exact World.ownsRow_lit w cs n (Nat.le_refl _) (by unfold maxLen; omega) e
end Go.Proofs.YtiofodmlgneieaaGreatFmt
