/- buildEBNF at a literal. Conditions: fmt's text is told by the model's FmtText; the dump is cut with -reflectrows -leanrows. -/
import Derived.Test.YtiofodmlgneieaaGreatFmtEc
import Derived.Test.YtiofodmlgneieaaGreatFmtL1
namespace Go.Proofs.YtiofodmlgneieaaGreatFmt
open Go.RowKit Go.Extern.Stop Go.Stop Go.Extern Go.Kit
theorem tape_drew (w : World) : w.drew.tape = w.tape := (Below.refl 0 w).drew.tape
theorem tape_alloc (w : World) (o : Obj) : (w.alloc o).tape = w.tape := rfl
def LitAt (w : World) (l : Nat) (s : ByteArray) (t : Int) (tt : ByteArray) : Prop := w.heap[l]? = some (.cells #[.string s, .int .i64 t, .string tt] 50 (0, 0))
theorem cell_last (w : World) (cs : Array Value) (t : TypeId) (j : Nat) (u : Value) (h : cs[j]? = some u) : (w.alloc (.cells cs t)).cell? ⟨w.heap.size, j, none⟩ = some u := by
  have hc := heap_alloc_new w (.cells cs t)
  unfold World.cell?
  simp only [hc]
  exact h
theorem lit_end {p : Nat} {w : World} {name s0 q : ByteArray} (o : Obj) (hw : p < w.heap.size) (HP : Hid (OutAt w p name s0)) :
    OutAt ((w.setCell ⟨p, 1, none⟩ (.string (s0 ++ q))).alloc o).drew.drew p name (s0 ++ q) ∧ Below p w ((w.setCell ⟨p, 1, none⟩ (.string (s0 ++ q))).alloc o).drew.drew :=
  ⟨OutAt.below (HP.out.set _) ((Below.refl _ _).alloc (Nat.le_refl _) o).drew.drew (by simp; exact hw), (((Below.refl p w).setCell (Nat.le_refl p) _).alloc (by simp; omega) o).drew.drew⟩
set_option maxHeartbeats 2000000 in
set_option maxRecDepth 100000 in
theorem pr_lit (F : Interp) (B : Nat) (W : World) (root : Bool) (l : Nat) (s : ByteArray) (hF : F.told.answers W.tape) (hl : W.cell? ⟨l, 0, none⟩ = some (.string s)) (hlB : l < B) (hs : s.size ≤ 4194304) :
    Pr B W root (.iface 47 (.pointer (some ⟨l, 0, none⟩))) (quoteTxt s) := by
  intro w p name s0 mv ov hb hpB hp hsz
  have r1 : w.cell? ⟨l, 0, none⟩ = some (.string s) := (hb.cell (p := ⟨l, 0, none⟩) hlB).trans hl
  have p1 := hp.cell
  have f1 := hp.free
  have hlt : p < w.heap.size := lt_of_block hp
  have HF : Hid (F.told.answers w.tape) := by rw [hb.tape]; exact hF
  have HP := Lib.hid hp
  have hq := quoteTxt_size s
  have k1 : ¬ (s0.size + (quoteTxt s).size > 9223372036854775807) := by omega
  clear hl hp hb hlB hsz hpB hF hq
  go_enter Tryz.func31, Tryz.ntmps31
  go_wp2_with fail
  go_region_with (with_reducible refine rows_q F s _ _ ?_ hs ?_ ?_; go_loud ((first | exact HF.out | (rw [tape_drew, tape_alloc]; exact HF.out) | (rw [tape_alloc, tape_drew]; exact HF.out)); go_simp))
  all_goals (go_wp2_with fail; go_end0; exact ⟨rfl, lit_end _ hlt HP⟩)
end Go.Proofs.YtiofodmlgneieaaGreatFmt
