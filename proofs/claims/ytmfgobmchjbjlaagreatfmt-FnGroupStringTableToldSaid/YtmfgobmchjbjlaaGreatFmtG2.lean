/- n025_16.FnGroupStringTable: the walk. The seat's flags: -reflectrows -leanrows (see REPORT.md, TRANSLATOR). -/
import Derived.Test.YtmfgobmchjbjlaaGreatFmtG1A
namespace Go.Proofs.YtmfgobmchjbjlaaGreatFmt
open Go.RowKit
def ZzStr (s : ByteArray) (e : Ending) : Prop := e = .returned (.bool false) ∨ (e = .returned (.bool true) ∧ s.size ≤ 1048576)
theorem zz16 (s : ByteArray) (m : Int) (w : World) (hs : s.size ≤ 9223372036854775807) : Calls Tryz.prog 6 #[.string s, .int .i64 m] w fun e w' => ZzStr s e ∧ w = w' := by
  by_cases h : 1048576 < s.size
  · have h1 : (1048576 : Int) < (s.size : Int) := by omega
    go_enter Tryz.func6, Tryz.ntmps6
    go_wp2
    go_ret
    exact ⟨Or.inl rfl, rfl⟩
  · have h1 : ¬ (1048576 : Int) < (s.size : Int) := by omega
    go_enter Tryz.func6, Tryz.ntmps6
    go_wp2
    go_ret
    exact ⟨Or.inr ⟨rfl, by omega⟩, rfl⟩
theorem suffix_any (m : Int) (w : World) : Calls Tryz.prog 10 #[.int .i64 m] w fun e w' => e = .returned (.string (modeTxt m)) ∧ w = w' := by
  by_cases h1 : m = 1
  · subst h1
    go_enter Tryz.func10, Tryz.ntmps10
    go_wp2
    go_ret
    exact ⟨rfl, rfl⟩
  by_cases h2 : m = 2
  · subst h2
    go_enter Tryz.func10, Tryz.ntmps10
    go_wp2
    go_ret
    exact ⟨rfl, rfl⟩
  by_cases h3 : m = 3
  · subst h3
    go_enter Tryz.func10, Tryz.ntmps10
    go_wp2
    go_ret
    exact ⟨rfl, rfl⟩
  by_cases h4 : m = 4
  · subst h4
    go_enter Tryz.func10, Tryz.ntmps10
    go_wp2
    go_ret
    exact ⟨rfl, rfl⟩
  have e : modeTxt m = ⟨#[]⟩ := by rw [modeTxt, if_neg h1, if_neg h2, if_neg h3, if_neg h4]
  rw [e]
  have b1 : (m == 1) = false := by simp [h1]
  have b2 : (m == 2) = false := by simp [h2]
  have b3 : (m == 3) = false := by simp [h3]
  have b4 : (m == 4) = false := by simp [h4]
  clear e h1 h2 h3 h4
  go_enter Tryz.func10, Tryz.ntmps10
  go_wp2
  go_ret
  exact ⟨rfl, rfl⟩
def grouped (w : World) (id : ByteArray) (m : Int) : World :=
  (w.alloc (.cells #[.int .i64 0, .string id] 56)).alloc (.cells #[.iface 53 (.pointer (some ⟨w.heap.size, 0, none⟩)), .int .i64 m] 61)
theorem pr_grouped (w : World) (id : ByteArray) (m : Int) (hid : id.size ≤ 4194304) (ha : AsciiS id) :
    Pr (grouped w id m).heap.size (grouped w id m) true (.iface 52 (.pointer (some ⟨w.heap.size + 1, 0, none⟩))) (refTxt id ++ modeTxt m) := by
  have hs : (grouped w id m).heap.size = w.heap.size + 1 + 1 := by simp [grouped]
  have hs1 : ∀ o, (w.alloc o).heap.size = w.heap.size + 1 := fun o => by simp
  refine pr_group_reference _ _ true (w.heap.size + 1) m (some ⟨w.heap.size, 0, none⟩) (refTxt id) ?_ (by omega) (pr_ref _ _ false w.heap.size 0 id ?_ (by omega) hid ha)
  · have := heap_alloc_new (w.alloc (.cells #[.int .i64 0, .string id] 56)) (.cells #[.iface 53 (.pointer (some ⟨w.heap.size, 0, none⟩)), .int .i64 m] 61)
    rw [hs1] at this
    exact this
  · unfold RefAt grouped
    rw [heap_alloc_old _ _ (by simp)]
    exact heap_alloc_new _ _
theorem mode_size (m : Int) : (modeTxt m).size ≤ 1 := by
  unfold modeTxt
  split
  · exact Nat.le_refl 1
  split
  · exact Nat.le_refl 1
  split
  · exact Nat.le_refl 1
  split
  · exact Nat.le_refl 1
  exact Nat.zero_le 1
set_option maxRecDepth 100000 in
theorem groupstr (w : World) (id : ByteArray) (m : Int) (hid : id.size ≤ 4194304) (ha : AsciiS id) :
    Calls Tryz.prog 8 #[.string id, .int .i64 m] w fun e w' => e = .returned (.string (⟨#[60]⟩ ++ lowTxt id ++ ⟨#[62]⟩ ++ modeTxt m)) ∧ Below w.heap.size w w' := by
  have HID := Lib.hid hid
  have HA := Lib.hid ha
  clear hid ha
  go_enter Tryz.func8, Tryz.ntmps8
  go_wp2_with fail
  refine (str_group (grouped w id m) _ _ (pr_grouped w id m HID.out HA.out) (by have h1 := refTxt_size id; have h2 := mode_size m; have h3 := HID.out; rw [ByteArray.size_append]; omega)).mono ?_
  rintro e w2 ⟨rfl, hb⟩
  have HB : Hid (Below w.heap.size w w2) := (((Below.refl _ w).alloc (Nat.le_refl _) _).alloc (by simp) _).trans (hb.mono (by simp [grouped]; omega))
  clear hb
  go_wp2_with fail
  go_ret
  exact ⟨rfl, HB.out⟩
theorem cat_mode {L : ByteArray} {m : Int} (h : L.size ≤ 1099511627776) : ¬ ((⟨#[60]⟩ ++ L ++ ⟨#[62]⟩ : ByteArray).size + (modeTxt m).size > 9223372036854775807) := by
  have : (⟨#[60]⟩ : ByteArray).size = 1 := rfl
  have : (⟨#[62]⟩ : ByteArray).size = 1 := rfl
  have := mode_size m
  rw [ByteArray.size_append, ByteArray.size_append]; omega
set_option maxRecDepth 100000 in
theorem walk16 (w : World) (id : ByteArray) (m : Int) (hs : id.size ≤ 9223372036854775807) :
    Calls Tryz.prog 3 #[.string id, .int .i64 m] w fun e w' => e = .returned (.bool true) ∧ Below w.heap.size w w' := by
  go_enter Tryz.func3, Tryz.ntmps3
  go_wp2_with fail
  refine (zz16 id m w hs).mono ?_
  rintro e _ ⟨hz, rfl⟩
  rcases hz with rfl | ⟨rfl, h1⟩
  · go_wp2_with fail
    go_ret
    exact ⟨rfl, Below.refl _ _⟩
  by_cases hA : (65536 : Int) < (id.size : Int)
  · go_wp2_with fail
    go_ret
    exact ⟨rfl, Below.refl _ _⟩
  go_wp2_with fail
  refine (isascii_any id _ (by omega)).mono ?_
  rintro e _ ⟨hi, rfl⟩
  rcases hi with rfl | ⟨rfl, ha⟩
  · go_wp2_with fail
    go_ret
    exact ⟨rfl, Below.refl _ _⟩
  have HA := Lib.hid ha
  clear ha
  have k1 := cat_lt (L := lowTxt id) (by rw [lowTxt_size]; omega)
  have k2 := cat_gt (L := lowTxt id) (by rw [lowTxt_size]; omega)
  have k3 := cat_mode (L := lowTxt id) (m := m) (by rw [lowTxt_size]; omega)
  go_wp2_with fail
  refine (groupstr _ id m (by omega) HA.out).mono ?_
  rintro e w1 ⟨rfl, hb1⟩
  have HB1 := Lib.hid hb1
  clear hb1
  go_wp2_with fail
  refine (low_any id _ (by omega)).mono ?_
  rintro e w2 ⟨rfl, hb2⟩
  have HB2 := Lib.hid hb2
  clear hb2
  go_wp2_with fail
  refine (suffix_any m _).mono ?_
  rintro e _ ⟨rfl, rfl⟩
  go_wp2_with fail
  go_ret
  exact ⟨rfl, HB1.out.trans (HB2.out.mono HB1.out.size)⟩
end Go.Proofs.YtmfgobmchjbjlaaGreatFmt
