/- n025_26.FnCaptureStringGroup: the law's own model of the references' text. The seat's flags: -reflectrows -leanrows (see REPORT.md, TRANSLATOR). -/
import Derived.Test.YtmfgobmchjbjlaaGreatFmtG3
import Derived.Test.YtmfgobmchjbjlaaGreatFmtBf
namespace Go.Proofs.YtmfgobmchjbjlaaGreatFmt
open Go.RowKit
set_option maxRecDepth 100000 in
theorem bytes_any (w : World) (ao : Option Addr) (n cap : Nat) (S : Nat → ByteArray) (hS : StrsIn w ao n S) (hZ : SizedTo S n) (hn : n ≤ 1048576) :
    Calls Tryz.prog 19 #[.slice ao n cap] w fun e w' => (∃ q : Nat, e = .returned (.int .i64 (q : Int)) ∧ q ≤ 24 + n * 1048592) ∧ w = w' := by
  have HS := Lib.hid hS
  have HZ := Lib.hid hZ
  clear hS hZ
  go_enter Tryz.func19, Tryz.ntmps19
  go_wp2
  go_loop [3, 4] (fun m i => ∃ (k q : Nat), k ≤ n ∧ i = .int .i64 k ∧ m = .int .i64 (q : Int) ∧ q ≤ 24 + k * 1048592) (fun _ i => n - (intOf i).toNat)
  case atStart => exact ⟨0, 24, Nat.zero_le _, rfl, rfl, by omega⟩
  case round =>
    obtain ⟨k, q, hk, rfl, rfl, hq⟩ := hrel
    by_cases hkn : k < n
    · obtain ⟨b, off, rfl, hb, hc⟩ := HS.out (by omega)
      have hc' := hc k hkn
      have hz : (S k).size ≤ 1048576 := HZ.out k hkn
      have hq2 : q ≤ 1099528404992 := by omega
      have HQ := Lib.hid hq
      clear hc hq
      go_wp2
      go_round
      case rel => exact ⟨k + 1, q + (16 + (S k).size), by omega, by go_num, by go_num, by have := HQ.out; omega⟩
      case measure => simp [intOf]; omega
    · obtain rfl : k = n := by clear hq; omega
      have HQ := Lib.hid hq
      clear hq
      go_wp2
      go_ret
      exact ⟨⟨q, rfl, HQ.out⟩, rfl⟩
set_option maxRecDepth 100000 in
theorem ascii_list (w : World) (ao : Option Addr) (n cap : Nat) (S : Nat → ByteArray) (hS : StrsIn w ao n S) (hZ : SizedTo S n) (hn : n ≤ 1048576) :
    Calls Tryz.prog 20 #[.slice ao n cap] w fun e w' => (e = .returned (.bool false) ∨ (e = .returned (.bool true) ∧ AllAscii S n)) ∧ w = w' := by
  have HS := Lib.hid hS
  have HZ := Lib.hid hZ
  clear hS hZ
  go_enter Tryz.func20, Tryz.ntmps20
  go_wp2_with fail
  go_loop [3] (fun i => ∃ k : Nat, k ≤ n ∧ i = .int .i64 k ∧ Hid (AllAscii S k)) (fun i => n - (intOf i).toNat)
  case atStart => exact ⟨0, Nat.zero_le _, rfl, fun i hi => absurd hi (Nat.not_lt_zero i)⟩
  case round =>
    obtain ⟨k, hk, rfl, HAS⟩ := hrel
    by_cases hkn : k < n
    · obtain ⟨b, off, rfl, hb, hc⟩ := HS.out (by omega)
      have hc' := hc k hkn
      clear hc
      go_wp2_with fail
      refine (isascii_any (S k) _ (by have := HZ.out k hkn; omega)).mono ?_
      rintro e _ ⟨hid, rfl⟩
      rcases hid with rfl | ⟨rfl, has⟩
      · go_wp2_with fail
        go_ret
        exact ⟨Or.inl rfl, rfl⟩
      · have HAS3 := Lib.hid has
        clear has
        go_wp2_with fail
        go_round
        case rel => exact ⟨k + 1, by omega, by go_num, allascii_step HAS.out HAS3.out⟩
        case measure => simp [intOf]; omega
    · go_wp2_with fail
      go_ret
      exact ⟨Or.inr ⟨rfl, fun i hi => HAS.out i (by omega)⟩, rfl⟩
def acc (S : Nat → ByteArray) (k : Nat) : List UInt8 := (seqTxt (refs S k)).data.toList
theorem acc_len {S : Nat → ByteArray} {n k : Nat} (h : SizedTo S n) (hk : k ≤ n) (hn : n ≤ 1024) : (acc S k).length ≤ 1073744896 := by
  have h1 := refs_size (S := S) (n := k) (fun i hi => h i (by omega))
  have h2 : (acc S k).length = (seqTxt (refs S k)).size := rfl
  have h3 : k * 1048579 ≤ 1024 * 1048579 := Nat.mul_le_mul_right _ (by omega)
  omega
theorem acc_first (S : Nat → ByteArray) : [] ++ [60] ++ (lowTxt (S 0)).data.toList ++ [62] = acc S 1 := by
  show _ = (refTxt (S 0)).data.toList
  simp [refTxt, lowTxt, ByteArray.data_append]
theorem acc_next (S : Nat → ByteArray) (k : Nat) (h : k ≠ 0) : acc S k ++ [32] ++ [60] ++ (lowTxt (S k)).data.toList ++ [62] = acc S (k + 1) := by
  have e : acc S (k + 1) = (seqTxt (refs S k) ++ ⟨#[32]⟩ ++ refTxt (S k)).data.toList := by rw [acc, want_step h]
  rw [e]
  simp [acc, refTxt, lowTxt, ByteArray.data_append]
theorem acc_text (S : Nat → ByteArray) (k : Nat) : (⟨(acc S k).toArray⟩ : ByteArray) = seqTxt (refs S k) := by simp [acc]
set_option maxHeartbeats 2000000 in
set_option maxRecDepth 100000 in
theorem model_any (w : World) (ao : Option Addr) (n cap : Nat) (S : Nat → ByteArray) (hS : StrsIn w ao n S) (hZ : SizedTo S n) (hn : n ≤ 256) :
    Calls Tryz.prog 23 #[.slice ao n cap] w fun e w' => e = .returned (.string (seqTxt (refs S n))) ∧ Below w.heap.size w w' := by
  have HS := Lib.hid hS
  have HZ := Lib.hid hZ
  clear hS hZ
  go_enter Tryz.func23, Tryz.ntmps23
  go_wp2_with fail
  refine (bytes_any _ ao n cap S HS.out HZ.out (by omega)).mono ?_
  rintro e _ ⟨⟨q, rfl, hq⟩, rfl⟩
  have hq2 : q ≤ 300000000 := by omega
  have hm := mk0 ((q : Int) + 3 * (n : Int)) (q + 3 * n) (by omega) (by omega)
  go_wp2_with fail
  go_loopw [3, 4] (fun v i wr => ∃ k : Nat, k ≤ n ∧ i = .int .i64 k ∧ Hid (Buf w.heap.size w wr v (acc S k))) (fun _ i _ => n - (intOf i).toNat)
  case atStart => exact ⟨0, Nat.zero_le _, rfl, mk0_buf w (q + 3 * n) (by omega)⟩
  case round =>
    obtain ⟨k, hk, rfl, HB⟩ := hrel
    by_cases hkn : k < n
    · obtain ⟨b, off, rfl, hb, hc⟩ := HS.out (by omega)
      have hck := hc k hkn
      have hlk : (acc S k).length ≤ 1073744896 := acc_len HZ.out hk (by omega)
      have hsk : (S k).size ≤ 1048576 := HZ.out k hkn
      clear hc
      by_cases h0 : k = 0
      · subst h0
        have hc0 : w.cell? ⟨b, off, none⟩ = some (.string (S 0)) := hck
        go_wp2_with (at_builtin; refine buf_add rfl _ _ rfl [60] _ rfl 1 rfl rfl rfl HB.out (by omega) ?_)
        intro v1 w1 hb1
        have HB1 := Lib.hid hb1
        have hc1 : w1.cell? ⟨b, off, none⟩ = some (.string (S 0)) := (hb1.2.1.cell hb).trans hc0
        clear hb1
        go_wp2_with fail
        refine (low_any (S 0) _ (by omega)).mono ?_
        rintro e w2 ⟨rfl, hb2⟩
        have HB2 := Lib.hid (HB1.out.carry hb2)
        clear hb2
        go_wp2_with (at_builtin; refine buf_str rfl _ _ (lowTxt (S 0)) rfl rfl rfl HB2.out (by rw [lowTxt_size]; simp; omega) ?_)
        intro v3 w3 hb3
        have HB3 := Lib.hid hb3
        have hl3 : ([] ++ [60] ++ (lowTxt (S 0)).data.toList : List UInt8).length ≤ 1048577 := by have := lowTxt_size (S 0); have e : (lowTxt (S 0)).data.toList.length = (lowTxt (S 0)).size := rfl; simp only [List.length_append, List.length_cons, List.length_nil, e]; omega
        clear hb3
        go_wp2_with (at_builtin; refine buf_add rfl _ _ rfl [62] _ rfl 1 rfl rfl rfl HB3.out (by have := hl3; simp at this ⊢; omega) ?_)
        intro v4 w4 hb4
        have HB4 : Hid (Buf w.heap.size w w4 v4 (acc S 1)) := by have h := hb4; rw [← acc_first S]; exact h
        clear hb4
        go_wp2_with fail
        go_roundw
        case rel => exact ⟨1, by omega, by go_num, HB4.out⟩
        case measure => simp [intOf]; omega
      · have hpos : (0 : Int) < (k : Int) := by omega
        go_wp2_with (at_builtin; refine buf_add rfl _ _ rfl [32] _ rfl 1 rfl rfl rfl HB.out (by omega) ?_)
        intro v0 w0 hb0
        have HB0 := Lib.hid hb0
        clear hb0
        go_wp2_with (at_builtin; refine buf_add rfl _ _ rfl [60] _ rfl 1 rfl rfl rfl HB0.out (by simp; omega) ?_)
        intro v1 w1 hb1
        have HB1 := Lib.hid hb1
        have hc1 : w1.cell? ⟨b, off + k, none⟩ = some (.string (S k)) := (hb1.2.1.cell hb).trans hck
        clear hb1
        go_wp2_with fail
        refine (low_any (S k) _ (by omega)).mono ?_
        rintro e w2 ⟨rfl, hb2⟩
        have HB2 := Lib.hid (HB1.out.carry hb2)
        clear hb2
        go_wp2_with (at_builtin; refine buf_str rfl _ _ (lowTxt (S k)) rfl rfl rfl HB2.out (by rw [lowTxt_size]; simp; omega) ?_)
        intro v3 w3 hb3
        have HB3 := Lib.hid hb3
        have hl3 : (acc S k ++ [32] ++ [60] ++ (lowTxt (S k)).data.toList).length ≤ 1175000000 := by have := lowTxt_size (S k); have e : (lowTxt (S k)).data.toList.length = (lowTxt (S k)).size := rfl; simp only [List.length_append, List.length_cons, List.length_nil, e]; omega
        clear hb3
        go_wp2_with (at_builtin; refine buf_add rfl _ _ rfl [62] _ rfl 1 rfl rfl rfl HB3.out (by have := hl3; simp at this ⊢; omega) ?_)
        intro v4 w4 hb4
        have HB4 := Lib.hid (show Buf w.heap.size w w4 v4 (acc S (k + 1)) by rw [← acc_next S k h0]; simpa using hb4)
        clear hb4
        go_wp2_with fail
        go_roundw
        case rel => exact ⟨k + 1, by omega, by go_num, HB4.out⟩
        case measure => simp [intOf]; omega
    · obtain rfl : k = n := by omega
      have hcv := buf_text HB.out
      rw [acc_text] at hcv
      have HBB := Lib.hid HB.out.2.1
      go_wp2_with fail
      go_ret
      exact ⟨rfl, HBB.out⟩
end Go.Proofs.YtmfgobmchjbjlaaGreatFmt
