/- The contracts of the parse context (a new context, its deepest error, a branch, a deferred capture): each called function returns and leaves the context as said here. Conditions: the dump is cut with -reflectrows -leanrows; no function of package reflect is called. -/
import Derived.Test.YtieeikddbdkehaaGreatRows
import Derived.WalkKit
import Derived.Outline
import Derived.OneCell
import Derived.Deep.QuietTactic
import Derived.BigQuiet
import Derived.Handy
import Derived.LaidEql
import Derived.Lib.Hide
import Derived.Deep.RegionLaw
import Derived.BigRegion
import Derived.Lib.SmallJoins
namespace Go.Proofs.YtieeikddbdkehaaGreat
open Go.RowKit

def ctxCells (e : Value) (d look : Int) (v : Value) : Array Value := #[.int .i64 0, .int .i64 0, .int .i64 0, .slice none 0 0, .map none, .int .i64 0, .nilIface, e, .int .i64 d, .int .i64 look, .map none, v, .bool false]
def CtxAt (w : World) (B : Nat) (e : Value) (d look : Int) (v : Value) : Prop := w.heap[B]? = some (.cells (ctxCells e d look v) 70 (0, 0))

theorem CtxAt.cell {w : World} {B : Nat} {e v : Value} {d look : Int} (h : CtxAt w B e d look v) (i : Nat) : w.cell? ⟨B, i, none⟩ = (ctxCells e d look v)[i]? := by
  unfold CtxAt at h; simp [World.cell?, h]
theorem CtxAt.free {w : World} {B : Nat} {e v : Value} {d look : Int} (h : CtxAt w B e d look v) (i : Nat) : w.frozen? ⟨B, i, none⟩ = false := by
  unfold CtxAt at h; simp [World.frozen?, h]
theorem CtxAt.all {w : World} {B : Nat} {e v : Value} {d look : Int} (h : CtxAt w B e d look v) :
    w.cell? ⟨B, 0, none⟩ = some (.int .i64 0) ∧ w.cell? ⟨B, 1, none⟩ = some (.int .i64 0) ∧ w.cell? ⟨B, 2, none⟩ = some (.int .i64 0) ∧ w.cell? ⟨B, 3, none⟩ = some (.slice none 0 0) ∧
    w.cell? ⟨B, 4, none⟩ = some (.map none) ∧ w.cell? ⟨B, 5, none⟩ = some (.int .i64 0) ∧ w.cell? ⟨B, 6, none⟩ = some .nilIface ∧ w.cell? ⟨B, 7, none⟩ = some e ∧
    w.cell? ⟨B, 8, none⟩ = some (.int .i64 d) ∧ w.cell? ⟨B, 9, none⟩ = some (.int .i64 look) ∧ w.cell? ⟨B, 10, none⟩ = some (.map none) ∧ w.cell? ⟨B, 11, none⟩ = some v ∧ w.cell? ⟨B, 12, none⟩ = some (.bool false) :=
  ⟨h.cell 0, h.cell 1, h.cell 2, h.cell 3, h.cell 4, h.cell 5, h.cell 6, h.cell 7, h.cell 8, h.cell 9, h.cell 10, h.cell 11, h.cell 12⟩
theorem CtxAt.lt {w : World} {B : Nat} {e v : Value} {d look : Int} (h : CtxAt w B e d look v) : B < w.heap.size := lt_of_block h
theorem CtxAt.below {w w' : World} {B C : Nat} {e v : Value} {d look : Int} (h : CtxAt w B e d look v) (hb : Below C w w') (hC : B < C) : CtxAt w' B e d look v := by
  unfold CtxAt at *; rw [hb.block B hC]; exact h
theorem CtxAt.setErr {w : World} {B : Nat} {e v : Value} {d look : Int} (h : CtxAt w B e d look v) (e' : Value) : CtxAt (w.setCell ⟨B, 7, none⟩ e') B e' d look v := by
  have := Go.Joins.block_setCell (i := 7) h e'; simpa [CtxAt, ctxCells] using this
theorem CtxAt.setDepth {w : World} {B : Nat} {e v : Value} {d look : Int} (h : CtxAt w B e d look v) (d' : Int) : CtxAt (w.setCell ⟨B, 8, none⟩ (.int .i64 d')) B e d' look v := by
  have := Go.Joins.block_setCell (i := 8) h (.int .i64 d'); simpa [CtxAt, ctxCells] using this
theorem CtxAt.setApply {w : World} {B : Nat} {e v : Value} {d look : Int} (h : CtxAt w B e d look v) (v' : Value) : CtxAt (w.setCell ⟨B, 11, none⟩ v') B e d look v' := by
  have := Go.Joins.block_setCell (i := 11) h v'; simpa [CtxAt, ctxCells] using this

theorem applyLen (w : World) (B : Nat) (e : Value) (d look : Int) (a : Option Addr) (n c : Nat) (h : CtxAt w B e d look (.slice a n c)) :
    Calls Tryz.prog 10 #[.pointer (some ⟨B, 0, none⟩)] w fun e w' => e = .returned (.int .i64 n) ∧ w = w' := by
  have h11 := h.all.2.2.2.2.2.2.2.2.2.2.2.1
  clear h
  go_enter Tryz.func10, Tryz.ntmps10
  go_wp2
  go_ret
  exact ⟨rfl, rfl⟩
theorem depthOf (w : World) (B : Nat) (e v : Value) (d look : Int) (h : CtxAt w B e d look v) :
    Calls Tryz.prog 11 #[.pointer (some ⟨B, 0, none⟩)] w fun e w' => e = .returned (.int .i64 d) ∧ w = w' := by
  have h8 := h.all.2.2.2.2.2.2.2.2.1
  clear h
  go_enter Tryz.func11, Tryz.ntmps11
  go_wp2
  go_ret
  exact ⟨rfl, rfl⟩
theorem lookOf (w : World) (B : Nat) (e v : Value) (d look : Int) (h : CtxAt w B e d look v) :
    Calls Tryz.prog 13 #[.pointer (some ⟨B, 0, none⟩)] w fun e w' => e = .returned (.int .i64 look) ∧ w = w' := by
  have h9 := h.all.2.2.2.2.2.2.2.2.2.1
  clear h
  go_enter Tryz.func13, Tryz.ntmps13
  go_wp2
  go_ret
  exact ⟨rfl, rfl⟩
theorem cursorOf (w : World) (B : Nat) (e v : Value) (d look : Int) (h : CtxAt w B e d look v) :
    Calls Tryz.prog 14 #[.pointer (some ⟨B, 0, none⟩)] w fun e w' => e = .returned (.int .i64 0) ∧ Below w.heap.size w w' := by
  obtain ⟨h0, h1, h2, -⟩ := h.all
  clear h
  go_enter Tryz.func14, Tryz.ntmps14
  go_wp2
  go_ret
  refine ⟨rfl, ?_⟩
  go_grown

theorem heap_new (w : World) (o : Obj) : (w.alloc o).heap[w.heap.size]? = some o := heap_alloc_new w o
theorem newCtx (w : World) (look : Int) :
    Calls Tryz.prog 19 #[.int .i64 look] w fun e w' => e = .returned (.pointer (some ⟨w.heap.size + 2, 0, none⟩)) ∧ CtxAt w' (w.heap.size + 2) .nilIface 0 look (.slice none 0 0) ∧ Below w.heap.size w w' ∧ w'.heap.size = w.heap.size + 3 := by
  go_enter Tryz.func19, Tryz.ntmps19
  go_wp2
  go_ret
  refine ⟨rfl, ?_, ?_, ?_⟩
  · have := heap_new ((w.alloc (Obj.cells #[Value.int IntKind.i64 0, Value.int IntKind.i64 0, Value.int IntKind.i64 0, Value.slice none 0 0, Value.map none] 65)).alloc (Obj.cells (ctxCells .nilIface 0 look (.slice none 0 0)) 70)) (Obj.cells (ctxCells .nilIface 0 look (.slice none 0 0)) 70)
    simpa [CtxAt, ctxCells] using this
  · go_grown
  · simp
theorem setDeepest (w : World) (B : Nat) (e v : Value) (d look d' : Int) (p : Option Addr) (h : CtxAt w B e d look v) :
    Calls Tryz.prog 20 #[.pointer (some ⟨B, 0, none⟩), .int .i64 d', .pointer p] w fun e w' => e = .returned (.tuple #[]) ∧ (w.setCell ⟨B, 7, none⟩ (.iface 37 (.pointer p))).setCell ⟨B, 8, none⟩ (.int .i64 d') = w' := by
  obtain ⟨h0, h1, h2, h3, h4, h5, h6, h7, h8, h9, h10, h11, h12⟩ := h.all
  have f7 := h.free 7
  have f8 := h.free 8
  clear h
  go_enter Tryz.func20, Tryz.ntmps20
  go_wp2
  go_end0
  exact ⟨rfl, rfl⟩
theorem branch (w : World) (B : Nat) (p : Addr) (d look : Int) (a : Option Addr) (n c : Nat) (h : CtxAt w B (.iface 37 (.pointer (some p))) d look (.slice a n c)) :
    Calls Tryz.prog 9 #[.pointer (some ⟨B, 0, none⟩)] w fun r w' => r = .returned (.pointer (some ⟨w.heap.size, 0, none⟩)) ∧ CtxAt w' w.heap.size (.iface 37 (.pointer (some p))) d look (.slice none 0 0) ∧ Below w.heap.size w w' ∧ w'.heap.size = w.heap.size + 1 := by
  have hlt := h.lt
  obtain ⟨h0, h1, h2, h3, h4, h5, h6, h7, h8, h9, h10, h11, h12⟩ := h.all
  clear h
  go_enter Tryz.func9, Tryz.ntmps9
  go_wp2
  go_ret
  refine ⟨rfl, ?_, ?_, ?_⟩
  · exact heap_new _ _
  · go_grown
  · simp

def ErrAt (w : World) (E : Nat) : Prop := ∃ cs, w.heap[E]? = some (.cells cs 48 (0, 0))
theorem u25 : Tryz.prog.underlying 25 = some (.interface #[("Error", 92)]) := by kernel_rfl
theorem info37' : (Tryz.prog.info? 37).map (fun i => i.comparable) = some true := by kernel_rfl
theorem info37 : ∃ i, Tryz.prog.info? 37 = some i ∧ i.comparable = true := by simpa [Option.map_eq_some_iff] using info37'
theorem info48' : (Tryz.prog.info? 48).map (fun i => i.size) = some 5 := by kernel_rfl
theorem info48 : ∃ i, Tryz.prog.info? 48 = some i ∧ i.size ≠ 0 := by
  obtain ⟨i, h1, h2⟩ := Option.map_eq_some_iff.1 info48'
  exact ⟨i, h1, by omega⟩
set_option maxRecDepth 100000 in
theorem errIs_same (w : World) (B : Nat) (v : Value) (d look : Int) (p : Addr) (h : CtxAt w B (.iface 37 (.pointer (some p))) d look v) :
    Calls Tryz.prog 12 #[.pointer (some ⟨B, 0, none⟩), .pointer (some p)] w fun e w' => e = .returned (.bool true) ∧ w = w' := by
  have h7 := h.all.2.2.2.2.2.2.2.1
  clear h
  obtain ⟨i, hi, hc⟩ := info37
  obtain ⟨j, hj, hs⟩ := info48
  have he := run_eql_iface_ptr_same (P := Tryz.prog) w p u25 Tryz.underlying37 hi hc hj
  clear hi hc hj hs
  go_enter Tryz.func12, Tryz.ntmps12
  go_wp2
  go_ret
  exact ⟨rfl, rfl⟩
set_option maxRecDepth 100000 in
theorem errIs_other (w : World) (B : Nat) (v : Value) (d look : Int) (p q : Nat) (h : CtxAt w B (.iface 37 (.pointer (some ⟨p, 0, none⟩))) d look v) (hp : ErrAt w p) (hq : ErrAt w q) (hne : p ≠ q) :
    Calls Tryz.prog 12 #[.pointer (some ⟨B, 0, none⟩), .pointer (some ⟨q, 0, none⟩)] w fun e w' => e = .returned (.bool false) ∧ w = w' := by
  have h7 := h.all.2.2.2.2.2.2.2.1
  clear h
  obtain ⟨i, hi, hc⟩ := info37
  obtain ⟨j, hj, hs⟩ := info48
  obtain ⟨cp, hp⟩ := hp
  obtain ⟨cq, hq⟩ := hq
  have he := run_eql_iface_ptr_other (P := Tryz.prog) w (a := ⟨p, 0, none⟩) (b := ⟨q, 0, none⟩) u25 Tryz.underlying37 hi hc hj hs (fun hh => hne (congrArg Addr.block hh)) hp hq
  clear hi hc hj hs hp hq
  go_enter Tryz.func12, Tryz.ntmps12
  go_wp2
  go_ret
  exact ⟨rfl, rfl⟩

theorem info88 : (Tryz.prog.info? 88).map (fun i => (i.zero, i.size, i.bytes)) = some (some (.pointer none), 1, 8) := by kernel_rfl
theorem step_append_own {P : Program} {ops : Array Oper} {o : Oper} {a : Act} {w : World} {K : Act → World → Prop} {Q : Exit → Act → World → Prop} {E : Prop}
    (hg : o.guard = none) (s x : Operand) (t : TypeId) (hop : o.op = Op.call { callee := Callee.builtin Builtin.append, args := #[s, x], argTypes := #[t, t] })
    (base : Nat) (e : TypeId) (i : TypeInfo) (z : Value) (size bytes : Nat) (h1 : P.underlying t = some (.slice e)) (h2 : P.info? e = some i) (h3 : i.zero = some z) (h4 : i.size = size) (h5 : i.bytes = bytes) (h6 : z.cells.size = size) (h7 : 0 < size)
    (v : Value) (n : Nat) (xs : List Value) (hs : a.eval s = v) (hown : w.ownsRow base e size v n xs)
    (ad : Addr) (m c : Nat) (news : List Value) (hx : a.eval x = .slice (some ad) m c) (hn : news.length = m * size) (hc : ∀ j u, news[j]? = some u → w.cell? (ad.add j) = some u) (h1c : ∀ u ∈ news, u.oneCell' = true)
    (b1 : n + m ≤ maxLen) (b2 : (n + m) * bytes ≤ 140737488355328) (hbase : base ≤ w.heap.size)
    (hK : ∀ v' w', w'.ownsRow base e size v' (n + m) (xs ++ news) → w.grownBy w' v.ownBlock → (v' = .slice none 0 0 ↔ v = .slice none 0 0 ∧ m = 0) → K (a.put o.dst v') w') :
    if Region.wanted o (yielded ops a.tmps) = true then Oper.wp P o a w K Q else E := by
  have hw : Region.wanted o (yielded ops a.tmps) = true := by simp [Region.wanted, hg]
  rw [if_pos hw]
  exact wp_append_own w s x t hop base e i z size bytes h1 h2 h3 h4 h5 h6 h7 v n xs hs hown ad m c news hx hn hc h1c b1 b2 hbase hK


theorem new_cell (w : World) (o1 o2 o3 : Obj) (x : Value) (t : TypeId) : ∀ j u, [x][j]? = some u → ((((w.alloc o1).alloc o2).alloc o3).alloc (.cells #[x] t)).drew.cell? ((⟨w.heap.size + 1 + 1 + 1, 0, none⟩ : Addr).add j) = some u := by
  intro j u hu
  obtain rfl : j = 0 := by
    have := (List.getElem?_eq_some_iff.1 hu).1
    simpa using this
  simp at hu
  subst hu
  have h := heap_alloc_new (((w.alloc o1).alloc o2).alloc o3) (.cells #[x] t)
  simp only [World.size_alloc] at h
  simpa [Addr.add] using cell_of_one (w := (((w.alloc o1).alloc o2).alloc o3).alloc (.cells #[x] t)) h
theorem row_ne {w : World} {base e size : Nat} {v : Value} {n : Nat} {xs : List Value} {B t : Nat} {cs : Array Value} (hown : w.ownsRow base e size v n xs) (h : w.heap[B]? = some (.cells cs t (0, 0))) (hne : e ≠ t) : some B ≠ v.ownBlock := by
  rcases hown.2 with ⟨rfl, _⟩ | ⟨g, cap, cur, rfl, _, hg, _⟩
  · simp [Value.ownBlock]
  · intro he
    simp only [Value.ownBlock, Option.some.injEq] at he
    subst he
    rw [h] at hg
    simp at hg
    exact hne hg.2.symm
theorem row_form {w : World} {base e size : Nat} {v : Value} {n : Nat} {xs : List Value} (hown : w.ownsRow base e size v n xs) : ∃ a c, v = .slice a n c := by
  rcases hown.2 with ⟨rfl, rfl⟩ | ⟨g, cap, cur, rfl, _⟩
  · exact ⟨_, _, rfl⟩
  · exact ⟨_, _, rfl⟩

theorem CtxAt.allocs {w : World} {B : Nat} {e v : Value} {d look : Int} (h : CtxAt w B e d look v) (o1 o2 o3 o4 : Obj) : CtxAt ((((w.alloc o1).alloc o2).alloc o3).alloc o4).drew B e d look v :=
  h.below (C := w.heap.size) (((((Below.refl _ _).alloc (Nat.le_refl _) o1).alloc (by simp) o2).alloc (by simp; omega) o3).alloc (by simp; omega) o4).drew h.lt
theorem CtxAt.grown {w w' : World} {row : Option Nat} {B : Nat} {e v : Value} {d look : Int} (h : CtxAt w B e d look v) (hg : w.grownBy w' row) (hne : some B ≠ row) : CtxAt w' B e d look v := by
  have := hg.block B h.lt hne
  unfold CtxAt at *; rw [this]; exact h
theorem below_grown {w w' : World} {B : Nat} {row : Option Nat} {o1 o2 o3 o4 : Obj} (hB : B ≤ w.heap.size) (hg : ((((w.alloc o1).alloc o2).alloc o3).alloc o4).drew.grownBy w' row) (hr : ∀ k, some k = row → B + 1 ≤ k) : Below B w w' :=
  (((((Below.refl _ _).alloc hB o1).alloc (by simp; omega) o2).alloc (by simp; omega) o3).alloc (by simp; omega) o4).drew.grown hg (by simp; omega) (fun k hk => by have := hr k hk.symm; omega)

/-- A context at block B: her error is *p, her depth d, her lookahead look; the slice v of n captures is a row of the call's own. -/
structure Rec (w : World) (B : Nat) (p : Addr) (d look : Int) (n : Nat) (v : Value) : Prop where
  ctx : CtxAt w B (.iface 37 (.pointer (some p))) d look v
  own : ∃ xs, w.ownsRow (B + 1) 88 1 v n xs ∧ ∀ u ∈ xs, u.oneCell' = true
/-- What w' keeps of w: every block but B and the row. -/
structure Frame2 (w w' : World) (B : Nat) (row : Option Nat) : Prop where
  os : w'.os = w.os
  tape : w'.tape = w.tape
  output : w'.output = w.output
  size : w.heap.size ≤ w'.heap.size
  block : ∀ k, k < w.heap.size → k ≠ B → some k ≠ row → w'.heap[k]? = w.heap[k]?
theorem Frame2.below {w w' : World} {B C : Nat} {row : Option Nat} (h : Frame2 w w' B row) (hC : C ≤ w.heap.size) (hB : C ≤ B) (hr : ∀ k, some k = row → C ≤ k) : Below C w w' :=
  ⟨h.os, h.tape, h.output, h.size, fun k hk => h.block k (by omega) (by omega) (fun e => by have := hr k e; omega)⟩
theorem Frame2.refl (w : World) (B : Nat) (row : Option Nat) : Frame2 w w B row := ⟨rfl, rfl, rfl, Nat.le_refl _, fun _ _ _ _ => rfl⟩
theorem Frame2.trans {a b c : World} {B : Nat} {row : Option Nat} (h : Frame2 a b B row) (k : Frame2 b c B row) : Frame2 a c B row :=
  ⟨k.os.trans h.os, k.tape.trans h.tape, k.output.trans h.output, Nat.le_trans h.size k.size, fun i hi hB hr => (k.block i (Nat.lt_of_lt_of_le hi h.size) hB hr).trans (h.block i hi hB hr)⟩
theorem Frame2.setCell (w : World) (B i : Nat) (u : Value) (row : Option Nat) : Frame2 w (w.setCell ⟨B, i, none⟩ u) B row :=
  ⟨rfl, rfl, rfl, by simp [World.setCell], fun k _ hB _ => Below.heap_setCell _ _ _ _ hB⟩
theorem Frame2.drew {a w : World} {B : Nat} {row : Option Nat} (h : Frame2 a w B row) : Frame2 a w.drew B row := ⟨h.os, h.tape, h.output, h.size, h.block⟩
theorem Frame2.alloc (w : World) (B : Nat) (row : Option Nat) (o : Obj) : Frame2 w (w.alloc o) B row :=
  ⟨rfl, rfl, rfl, by simp, fun k hk _ _ => Below.heap_alloc _ _ _ hk⟩
theorem Frame2.grown {w w' : World} {row : Option Nat} (B : Nat) (h : w.grownBy w' row) : Frame2 w w' B row := ⟨h.os, h.tape, h.output, h.size, fun k hk _ hr => h.block k hk hr⟩
theorem CtxAt.frame {w w' : World} {B C : Nat} {row : Option Nat} {e v : Value} {d look : Int} (h : CtxAt w C e d look v) (hf : Frame2 w w' B row) (hB : C ≠ B) (hr : some C ≠ row) : CtxAt w' C e d look v := by
  have := hf.block C h.lt hB hr
  unfold CtxAt at *; rw [this]; exact h
theorem ErrAt.frame {w w' : World} {B C : Nat} {row : Option Nat} (h : ErrAt w C) (hf : Frame2 w w' B row) (hB : C ≠ B) (hr : some C ≠ row) : ErrAt w' C := by
  obtain ⟨cs, h⟩ := h
  exact ⟨cs, (hf.block C (lt_of_block h) hB hr).trans h⟩
theorem ErrAt.below {w w' : World} {B C : Nat} (h : ErrAt w C) (hb : Below B w w') (hC : C < B) : ErrAt w' C := by
  obtain ⟨cs, h⟩ := h
  exact ⟨cs, (hb.block C hC).trans h⟩
theorem ErrAt.lt {w : World} {C : Nat} (h : ErrAt w C) : C < w.heap.size := by
  obtain ⟨cs, h⟩ := h
  exact lt_of_block h
theorem Rec.row_lt {w : World} {B : Nat} {p : Addr} {d look : Int} {n : Nat} {v : Value} (h : Rec w B p d look n v) : ∀ k, some k = v.ownBlock → B + 1 ≤ k ∧ k < w.heap.size := by
  obtain ⟨xs, ho, _⟩ := h.own
  exact fun k hk => ho.lt k hk.symm
theorem Rec.row_ne {w : World} {B C : Nat} {p : Addr} {d look : Int} {n : Nat} {v e' v' : Value} {d' look' : Int} (h : Rec w B p d look n v) (hc : CtxAt w C e' d' look' v') : some C ≠ v.ownBlock := by
  obtain ⟨xs, ho, _⟩ := h.own
  exact Go.Proofs.YtieeikddbdkehaaGreat.row_ne ho hc (by decide)
theorem Rec.err_ne {w : World} {B C : Nat} {p : Addr} {d look : Int} {n : Nat} {v : Value} (h : Rec w B p d look n v) (hc : ErrAt w C) : some C ≠ v.ownBlock ∧ C ≠ B := by
  obtain ⟨xs, ho, _⟩ := h.own
  obtain ⟨cs, hc⟩ := hc
  refine ⟨Go.Proofs.YtieeikddbdkehaaGreat.row_ne ho hc (by decide), fun e => ?_⟩
  have := h.ctx
  unfold CtxAt at this
  subst e
  rw [hc] at this
  simp at this
theorem Rec.below {w w' : World} {B : Nat} {p : Addr} {d look : Int} {n : Nat} {v : Value} (h : Rec w B p d look n v) (hb : Below w.heap.size w w') : Rec w' B p d look n v := by
  obtain ⟨xs, ho, hx⟩ := h.own
  exact ⟨h.ctx.below hb h.ctx.lt, xs, ho.kept (row := none) ⟨hb.os, hb.tape, hb.output, hb.size, fun k hk _ => hb.block k hk⟩ (by cases v.ownBlock <;> simp), hx⟩
theorem Rec.frame {w w' : World} {B C : Nat} {p : Addr} {d look : Int} {n : Nat} {v : Value} {row : Option Nat} (h : Rec w B p d look n v) (hf : Frame2 w w' C row) (hB : B ≠ C) (hr : some B ≠ row) (hv : ∀ k, some k = v.ownBlock → k ≠ C ∧ some k ≠ row) : Rec w' B p d look n v := by
  obtain ⟨xs, ho, hx⟩ := h.own
  refine ⟨h.ctx.frame hf hB hr, xs, ⟨ho.1, ?_⟩, hx⟩
  rcases ho.2 with hn | ⟨g, cap, cur, rfl, hb, hg, rest⟩
  · exact .inl hn
  · obtain ⟨h1, h2⟩ := hv g rfl
    exact .inr ⟨g, cap, cur, rfl, hb, (hf.block g (lt_of_block hg) h1 h2).trans hg, rest⟩
theorem Rec.form {w : World} {B : Nat} {p : Addr} {d look : Int} {n : Nat} {v : Value} (h : Rec w B p d look n v) : ∃ a c, v = .slice a n c := by
  obtain ⟨xs, ho, _⟩ := h.own
  exact row_form ho

theorem ptrs_snoc {xs : List Value} (h : ∀ u ∈ xs, u.oneCell' = true) (p : Option Addr) : ∀ u ∈ xs ++ [Value.pointer p], u.oneCell' = true := by
  intro u hu
  rcases List.mem_append.1 hu with hu | hu
  · exact h u hu
  · simp at hu; subst hu; rfl

set_option maxHeartbeats 1000000 in
set_option maxRecDepth 100000 in
theorem defer (w : World) (B : Nat) (p : Addr) (d look : Int) (n : Nat) (v : Value) (hrec : Rec w B p d look n v) (hn : n ≤ 100000) :
    Calls Tryz.prog 15 #[.pointer (some ⟨B, 0, none⟩)] w fun r w' => r = .returned (.tuple #[]) ∧ (∃ v', Rec w' B p d look (n + 1) v') ∧ Below B w w' := by
  obtain ⟨a, c, rfl⟩ := hrec.form
  obtain ⟨h, xs, hown, hptr⟩ := hrec
  have HP := Lib.hid hptr
  clear hptr
  have hlt := h.lt
  have hlt1 : B < w.heap.size + 1 := by omega
  have hlt2 : B < w.heap.size + 1 + 1 := by omega
  have hlt3 : B < w.heap.size + 1 + 1 + 1 := by omega
  have HC := Lib.hid h
  have h11 := h.all.2.2.2.2.2.2.2.2.2.2.2.1
  clear h
  obtain ⟨i0, hi, hz0, hz1, hz2⟩ := info_parts info88
  have HO : ∀ o1 o2 o3 o4, Hid (((((w.alloc o1).alloc o2).alloc o3).alloc o4).drew.ownsRow (B + 1) 88 1 (.slice a n c) n xs) := fun o1 o2 o3 o4 => ((((hown.alloc o1).alloc o2).alloc o3).alloc o4).drew
  have HR : Hid (some B ≠ (Value.slice a n c).ownBlock) := row_ne hown HC.out (by decide)
  have HL : ∀ k, some k = (Value.slice a n c).ownBlock → B + 1 ≤ k := fun k hk => (hown.lt k hk.symm).1
  have HL' := Lib.hid HL
  clear HL
  clear hown
  go_enter Tryz.func15, Tryz.ntmps15
  go_wp2
  go_region_law ((refine step_append_own rfl (.tmp 14) (.tmp 21) 68 rfl (B + 1) 88 i0 (.pointer none) 1 8 Tryz.underlying68 hi hz0 hz1 hz2 rfl (by decide) (.slice a n c) n xs rfl (HO _ _ _ _).out ⟨w.heap.size + 1 + 1 + 1, 0, none⟩ 1 1 [.pointer (some ⟨w.heap.size + 1 + 1, 0, none⟩)] rfl rfl (new_cell _ _ _ _ _ _) (by simp [Value.oneCell']) (by unfold maxLen; omega) (by omega) (by simp; omega) ?_); intro v' w' hown' hgrow hnil; obtain ⟨a', c', rfl⟩ := row_form hown'; have hC' := (HC.out.allocs _ _ _ _).grown hgrow HR.out; have hc11 := hC'.cell 11; simp only [ctxCells] at hc11; have hf11 := hC'.free 11; have HC' := Lib.hid hC'; have Hown' := Lib.hid hown'; have Hgrow := Lib.hid hgrow; clear hC' hown' hgrow hnil)
  all_goals (go_wp2; go_end0; exact ⟨rfl, ⟨_, HC'.out.setApply _, _, ownsRow_setCell_below Hown'.out (Nat.lt_succ_self B) _, ptrs_snoc HP.out _⟩, (below_grown (Nat.le_of_lt hlt) Hgrow.out HL'.out).setCell (Nat.le_refl B) _⟩)
end Go.Proofs.YtieeikddbdkehaaGreat
