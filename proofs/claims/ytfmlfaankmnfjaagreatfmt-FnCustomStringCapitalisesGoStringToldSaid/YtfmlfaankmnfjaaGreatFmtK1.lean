/- buildEBNF at the custom nodes, ebnf over one, String of one. Conditions: the dump is cut with -reflectrows -leanrows. -/
import Derived.Test.YtfmlfaankmnfjaaGreatFmtK0
namespace Go.Proofs.YtfmlfaankmnfjaaGreatFmt
open Go.RowKit
theorem custom_end {p : Nat} {w w1 : World} {name s0 t : ByteArray} (hw : p < w.heap.size) (HP : Hid (OutAt w p name s0)) (HB : Hid (Below w.drew.heap.size w.drew w1)) :
    OutAt (w1.setCell ⟨p, 1, none⟩ (.string (s0 ++ t))) p name (s0 ++ t) ∧ Below p w (w1.setCell ⟨p, 1, none⟩ (.string (s0 ++ t))) := by
  have h1 : Below p w w1 := ((Below.refl p w).drew).trans (HB.out.mono (by show p ≤ w.heap.size; omega))
  exact ⟨(OutAt.below (w := w.drew) HP.out HB.out hw).set _, h1.setCell (Nat.le_refl _) _⟩
set_option maxHeartbeats 2000000 in
set_option maxRecDepth 100000 in
theorem pr_custom0 (B : Nat) (W : World) (root : Bool) (c : Nat) (hc : W.cell? ⟨c, 0, none⟩ = some (.iface 137 (.pointer (some ⟨4, 69, none⟩)))) (hcB : c < B) :
    Pr B W root (.iface 66 (.pointer (some ⟨c, 0, none⟩))) ((⟨#[90]⟩ : ByteArray) ++ (⟨#[122, 122, 73, 102, 97, 99, 101]⟩ : ByteArray).extract 1 7) := by
  intro w p name s0 mv ov hb hpB hp hsz
  have c1 : w.cell? ⟨c, 0, none⟩ = some (.iface 137 (.pointer (some ⟨4, 69, none⟩))) := (hb.cell (p := ⟨c, 0, none⟩) hcB).trans hc
  have x5 := cnil_name 69
  have x6 := cmethod_name 69
  have x7 := cname42
  have q1 := hp.cell
  have f1 := hp.free
  have hlt := lt_of_block hp
  have hclt := World.block_lt_of_cell? w _ c1
  have k1 : ¬ ((⟨#[90]⟩ : ByteArray).size + ((⟨#[122, 122, 73, 102, 97, 99, 101]⟩ : ByteArray).extract 1 7).size > 9223372036854775807) := by decide
  have k2 : ¬ (s0.size + ((⟨#[90]⟩ : ByteArray) ++ (⟨#[122, 122, 73, 102, 97, 99, 101]⟩ : ByteArray).extract 1 7).size > 9223372036854775807) := by omega
  have HP := Lib.hid hp
  clear hc hp hb hcB hsz hpB
  go_enter Tryz.func28, Tryz.ntmps28
  go_wp2_with fail
  go_region_with (go_at_call 32; go_loud (refine (up0 _).mono ?_; rintro e w1 ⟨rfl, hb⟩; have q2 : w1.cell? ⟨p, 1, none⟩ = some (.string s0) := (hb.cell (p := ⟨p, 1, none⟩) hlt).trans q1; have f2 : w1.frozen? ⟨p, 1, none⟩ = false := (hb.frozen (p := ⟨p, 1, none⟩) hlt).trans f1; have c2 : w1.cell? ⟨c, 0, none⟩ = some (.iface 137 (.pointer (some ⟨4, 69, none⟩))) := (hb.cell (p := ⟨c, 0, none⟩) hclt).trans c1; have HB := Lib.hid hb; clear hb))
  all_goals (go_wp2_with fail; go_end0; exact ⟨rfl, custom_end hlt HP HB⟩)
set_option maxHeartbeats 2000000 in
set_option maxRecDepth 100000 in
theorem pr_custom1 (B : Nat) (W : World) (root : Bool) (c : Nat) (hc : W.cell? ⟨c, 0, none⟩ = some (.iface 137 (.pointer (some ⟨4, 71, none⟩)))) (hcB : c < B) :
    Pr B W root (.iface 66 (.pointer (some ⟨c, 0, none⟩))) ((⟨#[80]⟩ : ByteArray) ++ (⟨#[80, 97, 114, 115, 101, 97, 98, 108, 101]⟩ : ByteArray).extract 1 9) := by
  intro w p name s0 mv ov hb hpB hp hsz
  have c1 : w.cell? ⟨c, 0, none⟩ = some (.iface 137 (.pointer (some ⟨4, 71, none⟩))) := (hb.cell (p := ⟨c, 0, none⟩) hcB).trans hc
  have x5 := cnil_name 71
  have x6 := cmethod_name 71
  have x7 := cname45
  have q1 := hp.cell
  have f1 := hp.free
  have hlt := lt_of_block hp
  have hclt := World.block_lt_of_cell? w _ c1
  have k1 : ¬ ((⟨#[80]⟩ : ByteArray).size + ((⟨#[80, 97, 114, 115, 101, 97, 98, 108, 101]⟩ : ByteArray).extract 1 9).size > 9223372036854775807) := by decide
  have k2 : ¬ (s0.size + ((⟨#[80]⟩ : ByteArray) ++ (⟨#[80, 97, 114, 115, 101, 97, 98, 108, 101]⟩ : ByteArray).extract 1 9).size > 9223372036854775807) := by omega
  have HP := Lib.hid hp
  clear hc hp hb hcB hsz hpB
  go_enter Tryz.func28, Tryz.ntmps28
  go_wp2_with fail
  go_region_with (go_at_call 32; go_loud (refine (up1 _).mono ?_; rintro e w1 ⟨rfl, hb⟩; have q2 : w1.cell? ⟨p, 1, none⟩ = some (.string s0) := (hb.cell (p := ⟨p, 1, none⟩) hlt).trans q1; have f2 : w1.frozen? ⟨p, 1, none⟩ = false := (hb.frozen (p := ⟨p, 1, none⟩) hlt).trans f1; have c2 : w1.cell? ⟨c, 0, none⟩ = some (.iface 137 (.pointer (some ⟨4, 71, none⟩))) := (hb.cell (p := ⟨c, 0, none⟩) hclt).trans c1; have HB := Lib.hid hb; clear hb))
  all_goals (go_wp2_with fail; go_end0; exact ⟨rfl, custom_end hlt HP HB⟩)
set_option maxHeartbeats 2000000 in
set_option maxRecDepth 100000 in
theorem pr_custom2 (B : Nat) (W : World) (root : Bool) (c : Nat) (hc : W.cell? ⟨c, 0, none⟩ = some (.iface 137 (.pointer (some ⟨4, 73, none⟩)))) (hcB : c < B) :
    Pr B W root (.iface 66 (.pointer (some ⟨c, 0, none⟩))) ((⟨#[90]⟩ : ByteArray) ++ (⟨#[122, 122, 83, 104, 97, 112, 101]⟩ : ByteArray).extract 1 7) := by
  intro w p name s0 mv ov hb hpB hp hsz
  have c1 : w.cell? ⟨c, 0, none⟩ = some (.iface 137 (.pointer (some ⟨4, 73, none⟩))) := (hb.cell (p := ⟨c, 0, none⟩) hcB).trans hc
  have x5 := cnil_name 73
  have x6 := cmethod_name 73
  have x7 := cname47
  have q1 := hp.cell
  have f1 := hp.free
  have hlt := lt_of_block hp
  have hclt := World.block_lt_of_cell? w _ c1
  have k1 : ¬ ((⟨#[90]⟩ : ByteArray).size + ((⟨#[122, 122, 83, 104, 97, 112, 101]⟩ : ByteArray).extract 1 7).size > 9223372036854775807) := by decide
  have k2 : ¬ (s0.size + ((⟨#[90]⟩ : ByteArray) ++ (⟨#[122, 122, 83, 104, 97, 112, 101]⟩ : ByteArray).extract 1 7).size > 9223372036854775807) := by omega
  have HP := Lib.hid hp
  clear hc hp hb hcB hsz hpB
  go_enter Tryz.func28, Tryz.ntmps28
  go_wp2_with fail
  go_region_with (go_at_call 32; go_loud (refine (up2 _).mono ?_; rintro e w1 ⟨rfl, hb⟩; have q2 : w1.cell? ⟨p, 1, none⟩ = some (.string s0) := (hb.cell (p := ⟨p, 1, none⟩) hlt).trans q1; have f2 : w1.frozen? ⟨p, 1, none⟩ = false := (hb.frozen (p := ⟨p, 1, none⟩) hlt).trans f1; have c2 : w1.cell? ⟨c, 0, none⟩ = some (.iface 137 (.pointer (some ⟨4, 73, none⟩))) := (hb.cell (p := ⟨c, 0, none⟩) hclt).trans c1; have HB := Lib.hid hb; clear hb))
  all_goals (go_wp2_with fail; go_end0; exact ⟨rfl, custom_end hlt HP HB⟩)
@[go_sem] theorem mkmap (t : TypeId) (w : World) : (Instr.makeMap t none).run Tryz.prog w = .ok (.map (some w.heap.size)) (w.alloc (.map #[] 0)) := rfl
theorem start_out (w : World) (o1 o2 o4 : Obj) : OutAt ((((w.alloc o1).alloc o2).alloc (.cells #[.string ⟨#[]⟩, .string ⟨#[]⟩] 82)).alloc o4) (w.heap.size + 1 + 1) ⟨#[]⟩ ⟨#[]⟩ := by
  have h1 : ((w.alloc o1).alloc o2).heap.size = w.heap.size + 1 + 1 := by simp
  unfold OutAt
  rw [heap_alloc_old _ _ (by simp), ← h1]
  exact heap_alloc_new _ _
theorem empty_app (t : ByteArray) : (⟨#[]⟩ : ByteArray) ++ t = t := ByteArray.ext (by simp [ByteArray.data_append])
theorem start_size {t : ByteArray} (h : t.size ≤ 1000000000000) : (⟨#[]⟩ : ByteArray).size + t.size ≤ 1099511627776 := by
  have : (⟨#[]⟩ : ByteArray).size = 0 := rfl
  omega
theorem start_below (w : World) (o1 o2 o3 o4 : Obj) : Below w.heap.size w ((((w.alloc o1).alloc o2).alloc o3).alloc o4) :=
  ((((Below.refl _ w).alloc (Nat.le_refl _) o1).alloc (by simp) o2).alloc (by simp; omega) o3).alloc (by simp; omega) o4
set_option maxHeartbeats 2000000 in
set_option maxRecDepth 100000 in
theorem ebnf_custom (q : Option Addr) (txt : ByteArray) (w : World) (hP : Pr w.heap.size w true (.iface 66 (.pointer q)) txt) (hsz : txt.size ≤ 1000000000000) :
    Calls Tryz.prog 20 #[.iface 66 (.pointer q)] w fun e w' => e = .returned (.string txt) ∧ Below w.heap.size w w' := by
  have HS := Lib.hid hsz
  clear hsz
  go_enter Tryz.func20, Tryz.ntmps20
  go_wp2_with (go_at_call 28; go_loud (refine (hP _ (w.heap.size + 1 + 1) ⟨#[]⟩ ⟨#[]⟩ _ _ ?_ ?_ ?_ ?_).mono ?_; exact start_below _ _ _ _ _; (show w.heap.size ≤ w.heap.size + 1 + 1; omega); exact start_out _ _ _ _; exact start_size HS.out; rintro e w2 ⟨rfl, hp2, hb2⟩; have q1 := hp2.cell; rw [empty_app] at q1; have HB2 := Lib.hid ((start_below _ _ _ _ _).trans (hb2.mono (by show w.heap.size ≤ w.heap.size + 1 + 1; omega))); clear hp2 hb2))
  all_goals (go_ret; exact ⟨rfl, HB2.out⟩)
theorem str_custom (w : World) (q : Option Addr) (txt : ByteArray) (hP : Pr w.heap.size w true (.iface 66 (.pointer q)) txt) (hsz : txt.size ≤ 1000000000000) :
    Calls Tryz.prog 27 #[.pointer q] w fun e w' => e = .returned (.string txt) ∧ Below w.heap.size w w' := by
  have HP := Lib.hid hP
  have HS := Lib.hid hsz
  clear hP hsz
  go_enter Tryz.func27, Tryz.ntmps27
  go_wp2_with fail
  refine (ebnf_custom q txt _ HP.out HS.out).mono ?_
  rintro e w2 ⟨rfl, hb⟩
  have HB := Lib.hid hb
  clear hb
  go_wp2_with fail
  go_ret
  exact ⟨rfl, HB.out⟩
end Go.Proofs.YtfmlfaankmnfjaaGreatFmt
