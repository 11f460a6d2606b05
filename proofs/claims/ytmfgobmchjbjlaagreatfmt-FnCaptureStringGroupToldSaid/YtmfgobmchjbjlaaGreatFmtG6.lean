/- n025_26.FnCaptureStringGroup: the walk. The seat's flags: -reflectrows -leanrows (see REPORT.md, TRANSLATOR). -/
import Derived.Test.YtmfgobmchjbjlaaGreatFmtG5
namespace Go.Proofs.YtmfgobmchjbjlaaGreatFmt
open Go.RowKit
def CapGroup (w w' : World) (q : Option Addr) (c : Nat) : Prop := w'.heap[w.heap.size]? = some (.cells #[.iface 45 (.pointer q), .int .i64 0] 61 (0, 0)) ∧ w'.cell? ⟨c, 8, none⟩ = some (.iface 52 (.pointer (some ⟨w.heap.size, 0, none⟩))) ∧ w.heap.size < w'.heap.size ∧ c < w'.heap.size ∧ Below w.heap.size w w'
theorem capgroup (w : World) (q : Option Addr) : Calls Tryz.prog 22 #[.pointer q] w fun e w' => e = .returned (.pointer (some ⟨w.heap.size + 1, 0, none⟩)) ∧ CapGroup w w' q (w.heap.size + 1) := by
  go_enter Tryz.func22, Tryz.ntmps22
  go_wp2
  go_ret
  refine ⟨rfl, ?_, ?_, by simp; omega, by simp, ((Below.refl _ w).alloc (Nat.le_refl _) _).alloc (by simp) _⟩
  · rw [heap_alloc_old _ _ (by simp)]
    exact heap_alloc_new _ _
  · go_simp
theorem two_refs (S : Nat → ByteArray) (n : Nat) (h : 2 ≤ n) : refs S n = refTxt (S 0) :: refTxt (S 1) :: (refs S n).drop 2 := by
  have h0 := refs_drop S 0 n (by omega)
  have h1 := refs_drop S 1 n (by omega)
  rw [List.drop_zero] at h0
  rw [h1] at h0
  exact h0
theorem pr_capgroup {w0 w w' : World} {S : Nat → ByteArray} {n : Nat} {q : Option Addr} {c : Nat} (h : CapGroup w w' q c) (hq : Building w0 w n 0 S q) (hn : 2 ≤ n) :
    Pr w'.heap.size w' true (.iface 41 (.pointer (some ⟨c, 0, none⟩))) (parTxt (refs S n) ++ modeTxt 0) := by
  have h1 : SeqOf w.heap.size w (refs S n) q := hq.1
  have h2 := h1.mono h.2.2.2.2 h.2.2.2.2.size
  rw [two_refs S n hn] at h2 ⊢
  exact pr_capture _ _ true c _ _ h.2.1 h.2.2.2.1 (pr_group_sequence _ _ false w.heap.size 0 q _ h.1 h.2.2.1 (pr_seq_par _ _ _ _ _ q h2))
theorem par_text (ts : List ByteArray) : parTxt ts ++ modeTxt 0 = ⟨#[40]⟩ ++ seqTxt ts ++ ⟨#[41]⟩ := ByteArray.ext (by simp [ByteArray.data_append, parTxt, modeTxt])
theorem par_size {S : Nat → ByteArray} {n : Nat} (h : SizedTo S n) (hn : n ≤ 256) : (parTxt (refs S n) ++ modeTxt 0).size ≤ 1000000000000 := by
  rw [par_text, ByteArray.size_append, ByteArray.size_append]
  have h1 := refs_size h
  have h2 : n * 1048579 ≤ 256 * 1048579 := Nat.mul_le_mul_right _ (by omega)
  have : (⟨#[40]⟩ : ByteArray).size = 1 := rfl
  have : (⟨#[41]⟩ : ByteArray).size = 1 := rfl
  omega
theorem par_cats {S : Nat → ByteArray} {n : Nat} (h : SizedTo S n) (hn : n ≤ 256) : ¬ ((⟨#[40]⟩ : ByteArray).size + (seqTxt (refs S n)).size > 9223372036854775807) ∧ ¬ ((⟨#[40]⟩ ++ seqTxt (refs S n) : ByteArray).size + (⟨#[41]⟩ : ByteArray).size > 9223372036854775807) := by
  have h1 := refs_size h
  have h2 : n * 1048579 ≤ 256 * 1048579 := Nat.mul_le_mul_right _ (by omega)
  have : (⟨#[40]⟩ : ByteArray).size = 1 := rfl
  have : (⟨#[41]⟩ : ByteArray).size = 1 := rfl
  rw [ByteArray.size_append]
  omega
set_option maxHeartbeats 2000000 in
set_option maxRecDepth 100000 in
theorem walkgroup (w : World) (ao : Option Addr) (n cap : Nat) (S : Nat → ByteArray) (h0 : ao = none → n = 0 ∧ cap = 0) (hS : StrsIn w ao n S) (hn : n ≤ 9223372036854775807) :
    Calls Tryz.prog 5 #[.slice ao n cap] w fun e w' => e = .returned (.bool true) ∧ Below w.heap.size w w' := by
  have HS := Lib.hid hS
  have H0 := Lib.hid h0
  clear hS h0
  go_enter Tryz.func5, Tryz.ntmps5
  go_wp2_with fail
  refine (zz_any w ao n cap S HS.out hn).mono ?_
  rintro e _ ⟨hz, rfl⟩
  rcases hz with rfl | ⟨rfl, hn1, hZ⟩
  · go_wp2_with fail
    go_ret
    exact ⟨rfl, Below.refl _ _⟩
  have HZ := Lib.hid hZ
  clear hZ
  by_cases hA : (256 : Int) < (n : Int)
  · go_wp2_with fail
    go_ret
    exact ⟨rfl, Below.refl _ _⟩
  have hn2 : n ≤ 256 := by omega
  go_wp2_with fail
  refine (bytes_any w ao n cap S HS.out HZ.out (by omega)).mono ?_
  rintro e _ ⟨⟨q, rfl, hq⟩, rfl⟩
  by_cases hB : (65536 : Int) < (q : Int)
  · go_wp2_with fail
    go_ret
    exact ⟨rfl, Below.refl _ _⟩
  by_cases hC : (n : Int) < 2
  · go_wp2_with fail
    go_ret
    exact ⟨rfl, Below.refl _ _⟩
  have hn3 : 2 ≤ n := by omega
  clear hq
  go_wp2_with fail
  refine (ascii_list w ao n cap S HS.out HZ.out hn1).mono ?_
  rintro e _ ⟨hi, rfl⟩
  rcases hi with rfl | ⟨rfl, ha⟩
  · go_wp2_with fail
    go_ret
    exact ⟨rfl, Below.refl _ _⟩
  have HA := Lib.hid ha
  clear ha
  go_wp2_with fail
  refine (clone_any w ao n cap S H0.out HS.out hn1).mono ?_
  rintro e w1 ⟨vo, vc, rfl, hv, hb1⟩
  have HV := Lib.hid hv
  have HB1 := Lib.hid hb1
  clear hv hb1
  go_wp2_with fail
  refine (chain_any w1 vo n vc S HV.out HZ.out HA.out hn1).mono ?_
  rintro e w2 ⟨qq, rfl, hq2⟩
  have HQ := Lib.hid hq2
  clear hq2
  go_wp2_with fail
  refine (capgroup w2 qq).mono ?_
  rintro e w3 ⟨rfl, hc3⟩
  have HC3 := Lib.hid hc3
  clear hc3
  go_wp2_with fail
  refine (str_capture w3 _ _ (pr_capgroup HC3.out HQ.out hn3) (par_size HZ.out hn2)).mono ?_
  rintro e w4 ⟨rfl, hb4⟩
  rw [par_text]
  have b2 : Hid (Below w1.heap.size w1 w2) := HQ.out.2
  have b3 : Hid (Below w1.heap.size w1 w3) := b2.out.trans (HC3.out.2.2.2.2.mono b2.out.size)
  have b4 : Hid (Below w1.heap.size w1 w4) := b3.out.trans (hb4.mono b3.out.size)
  clear hb4
  obtain ⟨k1, k2⟩ := par_cats HZ.out hn2
  go_wp2_with fail
  refine (model_any w4 vo n vc S (HV.out.carry b4.out) HZ.out hn2).mono ?_
  rintro e w5 ⟨rfl, hb5⟩
  have b5 : Hid (Below w1.heap.size w1 w5) := b4.out.trans (hb5.mono b4.out.size)
  clear hb5
  go_wp2_with fail
  go_ret
  exact ⟨rfl, HB1.out.trans (b5.out.mono HB1.out.size)⟩
end Go.Proofs.YtmfgobmchjbjlaaGreatFmt
