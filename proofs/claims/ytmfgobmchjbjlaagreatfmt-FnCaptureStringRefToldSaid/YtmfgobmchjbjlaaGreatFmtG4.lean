/- n025_26.FnCaptureStringRef: the walk. The seat's flags: -reflectrows -leanrows (see REPORT.md, TRANSLATOR). -/
import Derived.Test.YtmfgobmchjbjlaaGreatFmtG3
namespace Go.Proofs.YtmfgobmchjbjlaaGreatFmt
open Go.RowKit
def ZzStr (s : ByteArray) (e : Ending) : Prop := e = .returned (.bool false) ∨ (e = .returned (.bool true) ∧ s.size ≤ 1048576)
theorem zz26 (s : ByteArray) (w : World) (hs : s.size ≤ 9223372036854775807) : Calls Tryz.prog 11 #[.string s] w fun e w' => ZzStr s e ∧ w = w' := by
  by_cases h : 1048576 < s.size
  · have h1 : (1048576 : Int) < (s.size : Int) := by omega
    go_enter Tryz.func11, Tryz.ntmps11
    go_wp2
    go_ret
    exact ⟨Or.inl rfl, rfl⟩
  · have h1 : ¬ (1048576 : Int) < (s.size : Int) := by omega
    go_enter Tryz.func11, Tryz.ntmps11
    go_wp2
    go_ret
    exact ⟨Or.inr ⟨rfl, by omega⟩, rfl⟩
/-- A capture of a reference, as its builder leaves it. -/
def Captured (w w' : World) (id : ByteArray) (c : Nat) : Prop := RefAt w' w.heap.size 0 id ∧ w'.cell? ⟨c, 8, none⟩ = some (.iface 53 (.pointer (some ⟨w.heap.size, 0, none⟩))) ∧ w.heap.size < w'.heap.size ∧ c < w'.heap.size ∧ Below w.heap.size w w'
theorem capref (w : World) (id : ByteArray) : Calls Tryz.prog 13 #[.string id] w fun e w' => e = .returned (.pointer (some ⟨w.heap.size + 1, 0, none⟩)) ∧ Captured w w' id (w.heap.size + 1) := by
  go_enter Tryz.func13, Tryz.ntmps13
  go_wp2
  go_ret
  refine ⟨rfl, ?_, ?_, by simp; omega, by simp, ((Below.refl _ w).alloc (Nat.le_refl _) _).alloc (by simp) _⟩
  · unfold RefAt
    rw [heap_alloc_old _ _ (by simp)]
    exact heap_alloc_new _ _
  · go_simp
theorem pr_captured {w w' : World} {id : ByteArray} {c : Nat} (h : Captured w w' id c) (hid : id.size ≤ 4194304) (ha : AsciiS id) : Pr w'.heap.size w' true (.iface 41 (.pointer (some ⟨c, 0, none⟩))) (refTxt id) :=
  pr_capture _ _ true c _ (refTxt id) h.2.1 h.2.2.2.1 (pr_ref _ _ false w.heap.size 0 id h.1 h.2.2.1 hid ha)
theorem one_strs (w : World) (id : ByteArray) : StrsIn (w.alloc (.cells #[.string id] 9)) (some ⟨w.heap.size, 0, none⟩) 1 (fun _ => id) := fun _ =>
  ⟨w.heap.size, 0, rfl, by simp, fun i hi => by
    obtain rfl : i = 0 := by omega
    have hc := heap_alloc_new w (.cells #[.string id] 9)
    unfold World.cell?
    simp only [hc]
    rfl⟩
theorem seq_one (id : ByteArray) : seqTxt (refs (fun _ => id) 1) = refTxt id := rfl
set_option maxHeartbeats 1000000 in
set_option maxRecDepth 100000 in
theorem walkref (w : World) (id : ByteArray) (hs : id.size ≤ 9223372036854775807) :
    Calls Tryz.prog 4 #[.string id] w fun e w' => e = .returned (.bool true) ∧ Below w.heap.size w w' := by
  go_enter Tryz.func4, Tryz.ntmps4
  go_wp2_with fail
  refine (zz26 id w hs).mono ?_
  rintro e _ ⟨hz, rfl⟩
  rcases hz with rfl | ⟨rfl, h1⟩
  · go_wp2_with fail
    go_ret
    exact ⟨rfl, Below.refl _ _⟩
  by_cases hA : (65536 : Int) < (id.size : Int)
  · go_wp2_with fail
    go_ret
    exact ⟨rfl, Below.refl _ _⟩
  go_wp2_with fail
  refine (isascii_any id _ (by omega)).mono ?_
  rintro e _ ⟨hi, rfl⟩
  rcases hi with rfl | ⟨rfl, ha⟩
  · go_wp2_with fail
    go_ret
    exact ⟨rfl, Below.refl _ _⟩
  have HA := Lib.hid ha
  clear ha
  have HZ : Hid (id.size ≤ 4194304) := (by omega : id.size ≤ 4194304)
  have HT : Hid ((refTxt id).size ≤ 1000000000000) := by have h := refTxt_size id; exact (by omega : (refTxt id).size ≤ 1000000000000)
  have k1 := cat_lt (L := lowTxt id) (by rw [lowTxt_size]; omega)
  have k2 := cat_gt (L := lowTxt id) (by rw [lowTxt_size]; omega)
  go_wp2_with fail
  refine (capref _ id).mono ?_
  rintro e w1 ⟨rfl, hc1⟩
  have HC1 := Lib.hid hc1
  clear hc1
  go_wp2_with fail
  refine (low_any id _ HZ.out).mono ?_
  rintro e w2 ⟨rfl, hb2⟩
  have HB2 := Lib.hid hb2
  clear hb2
  go_wp2_with fail
  refine (str_capture _ _ (refTxt id) ((pr_captured HC1.out HZ.out HA.out).mono (HB2.out.alloc HB2.out.size _) ?_) HT.out).mono ?_
  · have := HB2.out.size; simp; omega
  rintro e w3 ⟨rfl, hb3⟩
  have HB3 : Hid (Below w1.heap.size w1 w3) := (HB2.out.alloc HB2.out.size _).trans (hb3.mono (by have := HB2.out.size; simp; omega))
  have HS3 : Hid (StrsIn w3 (some ⟨w2.heap.size, 0, none⟩) 1 (fun _ => id)) := (one_strs w2 id).carry hb3
  have er : refTxt id = ⟨#[60]⟩ ++ lowTxt id ++ ⟨#[62]⟩ := rfl
  rw [er]
  clear hb3
  go_wp2_with fail
  refine (str_capture _ _ (refTxt id) ((pr_captured HC1.out HZ.out HA.out).mono HB3.out HB3.out.size) HT.out).mono ?_
  rintro e w4 ⟨rfl, hb4⟩
  have HB4 := Lib.hid hb4
  rw [er]
  clear hb4
  go_wp2_with fail
  refine (chain_any _ _ 1 1 (fun _ => id) (HS3.out.carry HB4.out) (fun i _ => by have := HZ.out; omega) (fun i _ => HA.out) (by omega)).mono ?_
  rintro e w5 ⟨q, rfl, hq⟩
  have HQ := Lib.hid hq
  clear hq
  go_wp2_with fail
  refine (str_sequence _ q (refTxt id) (pr_seq_root _ _ _ _ (by intro h; cases h) HQ.out.1) HT.out).mono ?_
  rintro e w6 ⟨rfl, hb6⟩
  have HB6 := Lib.hid hb6
  rw [er]
  clear hb6
  go_wp2_with fail
  go_ret
  refine ⟨rfl, ?_⟩
  have b1 := HC1.out.2.2.2.2
  have b3 := b1.trans (HB3.out.mono b1.size)
  have b4 := b3.trans (HB4.out.mono b3.size)
  have b5 := b4.trans (HQ.out.2.mono b4.size)
  exact b5.trans (HB6.out.mono b5.size)
end Go.Proofs.YtmfgobmchjbjlaaGreatFmt
