/- buildEBNF at a lookahead group. The seat's flags: -reflectrows -leanrows (see REPORT.md, TRANSLATOR). -/
import Derived.Test.YtiofodmlgneieaaGreatFmtEc
namespace Go.Proofs.YtiofodmlgneieaaGreatFmt
open Go.RowKit
def lookTxt (neg : Bool) (t : ByteArray) : ByteArray := (if neg then ⟨#[40, 63, 33, 32]⟩ else ⟨#[40, 63, 61, 32]⟩) ++ t ++ ⟨#[41]⟩
set_option maxHeartbeats 4000000 in
set_option maxRecDepth 100000 in
theorem pr_look (B : Nat) (W : World) (root neg : Bool) (l : Nat) (v : Value) (t : ByteArray) (hl0 : W.cell? ⟨l, 0, none⟩ = some v) (hl1 : W.cell? ⟨l, 1, none⟩ = some (.bool neg)) (hlB : l < B) (hP : Pr B W true v t) :
    Pr B W root (.iface 56 (.pointer (some ⟨l, 0, none⟩))) (lookTxt neg t) := by
  intro w p name s0 mv ov hb hpB hp hsz
  have c0 : w.cell? ⟨l, 0, none⟩ = some v := (hb.cell (p := ⟨l, 0, none⟩) hlB).trans hl0
  have c1 : w.cell? ⟨l, 1, none⟩ = some (.bool neg) := (hb.cell (p := ⟨l, 1, none⟩) hlB).trans hl1
  have q1 := hp.cell
  have f1 := hp.free
  have z1 : (⟨#[40, 63, 33, 32]⟩ : ByteArray).size = 4 := rfl
  have z2 : (⟨#[40, 63, 61, 32]⟩ : ByteArray).size = 4 := rfl
  have z3 : (⟨#[41]⟩ : ByteArray).size = 1 := rfl
  obtain ⟨pre, hpre⟩ : ∃ pre : ByteArray, pre = if neg then ⟨#[40, 63, 33, 32]⟩ else ⟨#[40, 63, 61, 32]⟩ := ⟨_, rfl⟩
  have hps : pre.size = 4 := by rw [hpre]; cases neg <;> rfl
  have hsz2 : s0.size + (pre.size + t.size + 1) ≤ 1099511627776 := by rw [lookTxt, ← hpre, ByteArray.size_append, ByteArray.size_append, z3] at hsz; exact hsz
  have k1 : ¬ (s0.size + (⟨#[40, 63, 33, 32]⟩ : ByteArray).size > 9223372036854775807) := by omega
  have k2 : ¬ (s0.size + (⟨#[40, 63, 61, 32]⟩ : ByteArray).size > 9223372036854775807) := by omega
  have k3 : Hid ((s0 ++ pre).size + t.size ≤ 1099511627776) := by rw [ByteArray.size_append]; exact (by omega : s0.size + pre.size + t.size ≤ 1099511627776)
  have k4 : ¬ ((s0 ++ pre ++ t).size + (⟨#[41]⟩ : ByteArray).size > 9223372036854775807) := by rw [ByteArray.size_append, ByteArray.size_append]; omega
  have HO : Hid (OutAt (w.setCell ⟨p, 1, none⟩ (.string (s0 ++ pre))) p name (s0 ++ pre)) := hp.set _
  have HW2 : Hid (Below B W (w.setCell ⟨p, 1, none⟩ (.string (s0 ++ pre)))) := hb.setCell hpB _
  have HBp := Lib.hid hpB
  have hlp : ¬ l = p := by omega
  have HPRE := Lib.hid hpre
  clear hpre hl0 hl1 hp hb hlB hsz hsz2 hpB z1 z2 z3 hps
  cases neg
  all_goals (
    have hq := HPRE.out
    simp only [if_true, if_false, Bool.false_eq_true] at hq
    clear HPRE
    subst hq
    go_enter Tryz.func31, Tryz.ntmps31
    go_wp2_with (go_at_call 31; go_loud (refine (hP _ p name _ mv ov ?_ HBp.out ?_ k3.out).mono ?_; (first | exact HW2.out | exact bstep HW2.out); (first | exact HO.out | exact ostep HO.out); rintro e w2 ⟨rfl, hp2, hb2⟩; have q2 := hp2.cell; have f2 := hp2.free; have H2 := Lib.hid hp2; have HB2 := Lib.hid hb2; clear hp2 hb2))
    go_end0
    refine ⟨rfl, ?_, (((Below.refl p w).setCell (Nat.le_refl p) _).trans HB2.out).setCell (Nat.le_refl p) _⟩
    have e : ∀ a b c d : ByteArray, a ++ (b ++ c ++ d) = a ++ b ++ c ++ d := fun a b c d => ByteArray.ext (by simp [ByteArray.data_append, Array.append_assoc])
    simp only [lookTxt, if_true, if_false, Bool.false_eq_true]
    rw [e]
    exact H2.out.set _)
end Go.Proofs.YtiofodmlgneieaaGreatFmt
