/- buildEBNF at a capture and at a group. The seat's flags: -reflectrows -leanrows (see REPORT.md, TRANSLATOR). -/
import Derived.Test.YtfmlfaankmnfjaaGreatFmtEb
namespace Go.Proofs.YtfmlfaankmnfjaaGreatFmt
open Go.RowKit
theorem OutAt.cell {w : World} {p : Nat} {name s0 : ByteArray} (h : OutAt w p name s0) : w.cell? ⟨p, 1, none⟩ = some (.string s0) := by unfold OutAt at h; simp [World.cell?, h]
theorem OutAt.free {w : World} {p : Nat} {name s0 : ByteArray} (h : OutAt w p name s0) : w.frozen? ⟨p, 1, none⟩ = false := by unfold OutAt at h; simp [World.frozen?, h]
theorem Pr.mono {B B' : Nat} {W W' : World} {root : Bool} {v : Value} {txt : ByteArray} (h : Pr B W root v txt) (hb : Below B W W') (hB : B ≤ B') : Pr B' W' root v txt :=
  fun w1 p name s0 mv ov h1 hp ho hs => h w1 p name s0 mv ov (hb.trans (h1.mono hB)) (Nat.le_trans hB hp) ho hs
theorem bstep {B : Nat} {W w : World} (h : Below B W w) : Below B W w.drew := h.drew
theorem ostep {w : World} {p : Nat} {name s0 : ByteArray} (h : OutAt w p name s0) : OutAt w.drew p name s0 := h
set_option maxHeartbeats 2000000 in
set_option maxRecDepth 100000 in
theorem pr_capture (B : Nat) (W : World) (root : Bool) (c : Nat) (v : Value) (txt : ByteArray) (hc : W.cell? ⟨c, 8, none⟩ = some v) (hcB : c < B) (hP : Pr B W false v txt) :
    Pr B W root (.iface 108 (.pointer (some ⟨c, 0, none⟩))) txt := by
  intro w p name s0 mv ov hb hpB hp hsz
  have c1 : w.cell? ⟨c, 8, none⟩ = some v := (hb.cell (p := ⟨c, 8, none⟩) hcB).trans hc
  have HP := Lib.hid hp
  have HS := Lib.hid hsz
  have HBp := Lib.hid hpB
  have HW := Lib.hid hb
  clear hc hp hb hcB hsz hpB
  go_enter Tryz.func28, Tryz.ntmps28
  go_wp2_with (go_at_call 28; go_loud (refine (hP _ p name s0 mv ov ?_ HBp.out ?_ HS.out).mono ?_; (first | exact HW.out | exact bstep HW.out); (first | exact HP.out | exact ostep HP.out); rintro e w2 ⟨rfl, hp2, hb2⟩; have H2 := Lib.hid hp2; have HB2 := Lib.hid hb2; clear hp2 hb2))
  all_goals (go_end0; exact ⟨rfl, H2.out, HB2.out⟩)
def modeTxt (m : Int) : ByteArray := if m = 1 then ⟨#[63]⟩ else if m = 2 then ⟨#[42]⟩ else if m = 3 then ⟨#[43]⟩ else if m = 4 then ⟨#[33]⟩ else ⟨#[]⟩
theorem mode_set {p : Nat} {w w2 : World} {name s0 txt : ByteArray} {m : Int} {c : UInt8} (H2 : Hid (OutAt w2 p name (s0 ++ txt))) (HB2 : Hid (Below p w w2)) (h : modeTxt m = ⟨#[c]⟩) :
    OutAt (w2.setCell ⟨p, 1, none⟩ (.string (s0 ++ txt ++ ⟨#[c]⟩))) p name (s0 ++ (txt ++ modeTxt m)) ∧ Below p w (w2.setCell ⟨p, 1, none⟩ (.string (s0 ++ txt ++ ⟨#[c]⟩))) := by
  rw [h, ← ByteArray.append_assoc]
  exact ⟨H2.out.set _, HB2.out.setCell (Nat.le_refl _) _⟩
theorem mode_same {p : Nat} {w w2 : World} {name s0 txt : ByteArray} {m : Int} (H2 : Hid (OutAt w2 p name (s0 ++ txt))) (HB2 : Hid (Below p w w2)) (h : modeTxt m = ⟨#[]⟩) : OutAt w2 p name (s0 ++ (txt ++ modeTxt m)) ∧ Below p w w2 := by
  have e : txt ++ (⟨#[]⟩ : ByteArray) = txt := ByteArray.ext (by simp [ByteArray.data_append])
  rw [h, e]
  exact ⟨H2.out, HB2.out⟩
theorem catm {s0 txt : ByteArray} {m : Int} {c : UInt8} (h : s0.size + (txt ++ modeTxt m).size ≤ 1099511627776) : ¬ ((s0 ++ txt).size + (⟨#[c]⟩ : ByteArray).size > 9223372036854775807) := by
  have : (⟨#[c]⟩ : ByteArray).size = 1 := rfl
  rw [ByteArray.size_append] at *
  omega
set_option maxHeartbeats 2000000 in
set_option maxRecDepth 100000 in
theorem pr_group_reference (B : Nat) (W : World) (root : Bool) (g : Nat) (m : Int) (q : Option Addr) (txt : ByteArray) (hg : W.heap[g]? = some (.cells #[.iface 44 (.pointer q), .int .i64 m] 126 (0, 0))) (hgB : g < B) (hP : Pr B W false (.iface 44 (.pointer q)) txt) :
    Pr B W root (.iface 122 (.pointer (some ⟨g, 0, none⟩))) (txt ++ modeTxt m) := by
  intro w p name s0 mv ov hb hpB hp hsz
  have hg' : w.heap[g]? = _ := (hb.block g hgB).trans hg
  have c0 : w.cell? ⟨g, 0, none⟩ = some (.iface 44 (.pointer q)) := by simp [World.cell?, hg']
  have c1 : w.cell? ⟨g, 1, none⟩ = some (.int .i64 m) := by simp [World.cell?, hg']
  have HP := Lib.hid hp
  have HS : Hid (s0.size + txt.size ≤ 1099511627776) := by rw [ByteArray.size_append] at hsz; exact (by omega : s0.size + txt.size ≤ 1099511627776)
  have HS' := Lib.hid hsz
  have HBp := Lib.hid hpB
  have HW := Lib.hid hb
  have HG : Hid (g < p) := (by omega : g < p)
  clear hg hg' hp hb hgB hsz hpB
  go_enter Tryz.func28, Tryz.ntmps28
  go_wp2_with (go_at_call 28; go_loud (refine (hP _ p name s0 mv ov ?_ HBp.out ?_ HS.out).mono ?_; (first | exact HW.out | exact bstep HW.out); (first | exact HP.out | exact ostep HP.out); rintro e w2 ⟨rfl, hp2, hb2⟩; have q1 := hp2.cell; have f1 := hp2.free; have m1 : w2.cell? ⟨g, 1, none⟩ = some (.int .i64 m) := (hb2.cell (p := ⟨g, 1, none⟩) HG.out).trans c1; have k1 := catm (c := 63) HS'.out; have k2 := catm (c := 42) HS'.out; have k3 := catm (c := 43) HS'.out; have k4 := catm (c := 33) HS'.out; have H2 := Lib.hid hp2; have HB2 := Lib.hid hb2; clear hp2 hb2))
  all_goals (go_end0; refine ⟨rfl, ?_⟩; clear HP HS HS' HW HG k1 k2 k3 k4 q1 f1 m1 c0 c1 hP; first | exact mode_set H2 HB2 (by clear H2 HB2; simp_all [modeTxt]) | exact mode_same H2 HB2 (by clear H2 HB2; simp_all [modeTxt]))
set_option maxHeartbeats 2000000 in
set_option maxRecDepth 100000 in
theorem pr_group_sequence (B : Nat) (W : World) (root : Bool) (g : Nat) (m : Int) (q : Option Addr) (txt : ByteArray) (hg : W.heap[g]? = some (.cells #[.iface 46 (.pointer q), .int .i64 m] 126 (0, 0))) (hgB : g < B) (hP : Pr B W false (.iface 46 (.pointer q)) txt) :
    Pr B W root (.iface 122 (.pointer (some ⟨g, 0, none⟩))) (txt ++ modeTxt m) := by
  intro w p name s0 mv ov hb hpB hp hsz
  have hg' : w.heap[g]? = _ := (hb.block g hgB).trans hg
  have c0 : w.cell? ⟨g, 0, none⟩ = some (.iface 46 (.pointer q)) := by simp [World.cell?, hg']
  have c1 : w.cell? ⟨g, 1, none⟩ = some (.int .i64 m) := by simp [World.cell?, hg']
  have HP := Lib.hid hp
  have HS : Hid (s0.size + txt.size ≤ 1099511627776) := by rw [ByteArray.size_append] at hsz; exact (by omega : s0.size + txt.size ≤ 1099511627776)
  have HS' := Lib.hid hsz
  have HBp := Lib.hid hpB
  have HW := Lib.hid hb
  have HG : Hid (g < p) := (by omega : g < p)
  clear hg hg' hp hb hgB hsz hpB
  go_enter Tryz.func28, Tryz.ntmps28
  go_wp2_with (go_at_call 28; go_loud (refine (hP _ p name s0 mv ov ?_ HBp.out ?_ HS.out).mono ?_; (first | exact HW.out | exact bstep HW.out); (first | exact HP.out | exact ostep HP.out); rintro e w2 ⟨rfl, hp2, hb2⟩; have q1 := hp2.cell; have f1 := hp2.free; have m1 : w2.cell? ⟨g, 1, none⟩ = some (.int .i64 m) := (hb2.cell (p := ⟨g, 1, none⟩) HG.out).trans c1; have k1 := catm (c := 63) HS'.out; have k2 := catm (c := 42) HS'.out; have k3 := catm (c := 43) HS'.out; have k4 := catm (c := 33) HS'.out; have H2 := Lib.hid hp2; have HB2 := Lib.hid hb2; clear hp2 hb2))
  all_goals (go_end0; refine ⟨rfl, ?_⟩; clear HP HS HS' HW HG k1 k2 k3 k4 q1 f1 m1 c0 c1 hP; first | exact mode_set H2 HB2 (by clear H2 HB2; simp_all [modeTxt]) | exact mode_same H2 HB2 (by clear H2 HB2; simp_all [modeTxt]))
end Go.Proofs.YtfmlfaankmnfjaaGreatFmt
