/- n025_45: zzDecodeAt reads fmt's quoted text back. The seat's flags: -reflectrows -leanrows (see REPORT.md, TRANSLATOR). -/
import Derived.Test.YtiofodmlgneieaaGreatFmtD1
import Derived.Test.YtiofodmlgneieaaGreatFmtD2
import Derived.Test.YtiofodmlgneieaaGreatFmtD2b
import Derived.Test.YtiofodmlgneieaaGreatFmtL1
namespace Go.Proofs.YtiofodmlgneieaaGreatFmt
open Go.RowKit Go.Extern
/-- What is left of the quoted text when pos bytes of l are read. -/
def left (l : List UInt8) (fuel pos : Nat) : List UInt8 := FmtText.quoteFrom 34 false (FmtText.arr l) fuel pos ++ [34]
theorem byte_name (l : List UInt8) (m : Nat) (h : m < l.length) : ∃ bb : UInt8, bb = l[m]'h := ⟨_, rfl⟩
def Dec (w wr : World) (q : ByteArray) (l : List UInt8) (v : Value) (i p fuel : Nat) : Prop :=
  Buf w.heap.size w wr v (l.take p) ∧ Rest q i (left l fuel p) ∧ l.length ≤ fuel + p ∧ p ≤ l.length
theorem byte_of {q : ByteArray} {i : Nat} {a t : List UInt8} (h : Rest q i (a ++ t)) (j : Nat) (hj : j < a.length) (b : UInt8) (hb : a[j]'hj = b) (hq : i + j < q.size) : ((q[i + j]'hq).toNat : Int) = (b.toNat : Int) := by
  rw [h.get j hj hq, hb]
theorem byte_of0 {q : ByteArray} {i : Nat} {a t : List UInt8} (h : Rest q i (a ++ t)) (hj : 0 < a.length) (b : UInt8) (hb : a[0]'hj = b) (hq : i < q.size) : ((q[i]'hq).toNat : Int) = (b.toNat : Int) := by
  have := h.get 0 hj hq
  rw [hb] at this
  exact congrArg (fun x : UInt8 => ((x.toNat : Nat) : Int)) this
theorem dec_next {w wr : World} {q : ByteArray} {l txt bytes : List UInt8} {v : Value} {i p f k : Nat} (hB : Buf w.heap.size w wr v (l.take p ++ bytes)) (hR : Rest q i (txt ++ left l f (p + k))) (ht : l.take (p + k) = l.take p ++ bytes)
    (hf : l.length ≤ f + 1 + p) (hk : 0 < k) (hp : p + k ≤ l.length) : Dec w wr q l v (i + txt.length) (p + k) f := by
  refine ⟨by rw [ht]; exact hB, hR.skip, by omega, hp⟩
set_option maxHeartbeats 16000000 in
set_option maxRecDepth 100000 in
theorem decode_any (s : ByteArray) (w : World) (hs : s.size ≤ 1048576) :
    Calls Tryz.prog 12 #[.string (quoteTxt s), .int .i64 0] w fun e w' => e = .returned (.tuple #[.string s, .int .i64 ((quoteTxt s).size : Int), .bool true]) ∧ Below w.heap.size w w' := by
  obtain ⟨q, hq⟩ : ∃ q, q = quoteTxt s := ⟨_, rfl⟩
  rw [← hq]
  have hqs : q.size ≤ 10485762 := by rw [hq]; have := quoteTxt_size s; omega
  have hr0 : Rest q 0 ([34] ++ left s.data.toList s.data.toList.length 0) := ⟨Nat.zero_le _, by rw [hq]; rfl⟩
  have h0 : 0 < q.size := hr0.lt 0 (by decide)
  have hb0 := byte_of0 hr0 (by decide) 34 rfl h0
  have b34 : ((34 : UInt8).toNat : Int) = 34 := rfl
  rw [b34] at hb0
  have HR1 : Hid (Rest q 1 (left s.data.toList s.data.toList.length 0)) := hr0.skip
  have hq1 : ¬ (q.size : Int) ≤ 0 := by omega
  have hq2 : ¬ q = ByteArray.empty := by intro e; rw [e] at h0; exact absurd h0 (by decide)
  clear hr0 hq
  go_enter Tryz.func12, Tryz.ntmps12
  go_wp2_with fail
  go_loopw [7, 8] (fun v i wr => ∃ (I p fuel : Nat), i = .int .i64 (I : Int) ∧ Hid (Dec w wr q s.data.toList v I p fuel)) (fun _ i _ => q.size - (intOf i).toNat)
  case atStart => exact ⟨1, 0, s.data.toList.length, by first | rfl | go_num, lit_buf w _ 0 [] rfl rfl (by omega), HR1.out, by omega, Nat.zero_le _⟩
  case round =>
    obtain ⟨I, p, fuel, rfl, HD⟩ := hrel
    by_cases hp : s.data.toList.length ≤ p
    · have hleft : left s.data.toList fuel p = [34] := by rw [left, quote_end _ fuel p hp]; rfl
      have hR := HD.out.2.1
      rw [hleft] at hR
      have hR' : Rest q I ([34] ++ []) := hR
      have hI : I < q.size := hR'.lt 0 (by decide)
      have hb := byte_of0 hR' (by decide) 34 rfl hI
      rw [b34] at hb
      have hend : (I : Int) + 1 = (q.size : Int) := by have := hR.size; simp at this; omega
      have hcv := buf_text HD.out.1
      rw [List.take_of_length_le hp] at hcv
      have HBB := Lib.hid HD.out.1.2.1
      clear hR hR' hleft
      go_wp2_with fail
      first
        | (go_ret3; exact ⟨rfl, HBB.out⟩)
        | (go_ret3; exact ⟨by simp [hend], HBB.out⟩)
    · have hp' : p < s.data.toList.length := by omega
      obtain ⟨f, rfl⟩ : ∃ f, fuel = f + 1 := ⟨fuel - 1, by have := HD.out.2.2.1; omega⟩
      obtain ⟨k, txt, bytes, hk, hpk, hstep, htake, hSO⟩ := quote_step s.data.toList f p hp'
      have hR : Rest q I (txt ++ left s.data.toList f (p + k)) := by have h := HD.out.2.1; rw [left, hstep, List.append_assoc] at h; exact h
      have HRR := Lib.hid hR
      have HTK := Lib.hid htake
      have hll : (s.data.toList.take p).length ≤ 1048576 := by rw [List.length_take]; have : s.data.toList.length = s.size := rfl; omega
      have HN : ∀ (wr' : World) (v' : Value), Buf w.heap.size w wr' v' (s.data.toList.take p ++ bytes) → Dec w wr' q s.data.toList v' (I + txt.length) (p + k) f := fun wr' v' hB => dec_next hB HRR.out HTK.out HD.out.2.2.1 hk hpk
      have HNX := Lib.hid HN
      clear hR htake HN
      rcases hSO with ⟨c, ht, hbq, c1, c2, c3, c4⟩ | ⟨r, ht, hbq, r1, r2⟩ | ⟨e, b, ht, hbq, htab⟩ | ⟨b, hb, ht, hbq⟩ | ⟨r, ht, hbq, r1, r2, r3⟩ | ⟨r, ht, hbq, r1, r2⟩
      · subst ht
        subst hbq
        have hI : I < q.size := HRR.out.lt 0 (by simp)
        have hb := byte_of0 HRR.out (by simp) c rfl hI
        obtain ⟨n, hn⟩ : ∃ n : Nat, n = c.toNat := ⟨_, rfl⟩
        have e34 : ((n : Int) == 34) = false := by simp; omega
        have e92 : ((n : Int) == 92) = false := by simp; omega
        have e127 : ((n : Int) == 127) = false := by simp; omega
        have l32 : ¬ (n : Int) < 32 := by omega
        have l128 : ¬ (128 : Int) ≤ (n : Int) := by omega
        rw [← hn] at hb
        have HG : Hid ([Value.int .u8 (n : Int)] = cellsOf [c]) := by rw [hn]; exact rfl
        clear c1 c2 c3 c4 hn
        go_wp2_with (at_builtin; refine buf_add rfl _ _ rfl [c] _ HG.out 1 rfl rfl rfl HD.out.1 (by omega) ?_)
        intro v1 w1 hb1
        have HB1 := Lib.hid (HNX.out w1 v1 hb1)
        clear hb1
        go_wp2_with fail
        go_roundw
        case rel => exact ⟨I + 1, p + k, f, by go_num, HB1.out⟩
        case measure => simp [intOf]; omega
      · have hbt : bytes = txt := hbq.trans ht.symm
        subst hbt
        have hl : 2 ≤ bytes.length ∧ bytes.length ≤ 4 := by rw [ht, enc_len r r1 r2]; split; omega; split <;> omega
        have hI : I < q.size := HRR.out.lt 0 (by omega)
        have hge := (utf8len q I r (left s.data.toList f (p + k)) wr r1 r2 (by rw [← ht]; exact HRR.out) (by omega)).1 hI
        have hcall := (utf8len q I r (left s.data.toList f (p + k)) wr r1 r2 (by rw [← ht]; exact HRR.out) (by omega)).2
        rw [← ht] at hcall
        obtain ⟨n, hn⟩ : ∃ n, n = bytes.length := ⟨_, rfl⟩
        rw [← hn] at hcall hl
        have HNN := Lib.hid hn
        have HL := Lib.hid hl
        have n0 : ((n : Int) == 0) = false := by simp; omega
        have e34 : (((q[I]'hI).toNat : Int) == 34) = false := by simp; omega
        have e127 : (((q[I]'hI).toNat : Int) == 127) = false := by simp; omega
        have l32 : ¬ ((q[I]'hI).toNat : Int) < 32 := by omega
        clear hl hn ht hbq r1 r2
        go_wp2_with fail
        refine hcall.mono ?_
        rintro e _ ⟨rfl, rfl⟩
        clear hcall
        go_wp2_with fail
        go_loopw [7, 11] (fun v2 j wr2 => ∃ m : Nat, m ≤ n ∧ j = .int .i64 (m : Int) ∧ Hid (Buf w.heap.size w wr2 v2 (s.data.toList.take p ++ bytes.take m))) (fun _ j _ => n - (intOf j).toNat)
        case atStart => exact ⟨0, Nat.zero_le _, rfl, by have h := HD.out.1; show Buf w.heap.size w _ _ _; simpa using h⟩
        case round =>
          obtain ⟨m, hm, rfl, HBm⟩ := hrel
          by_cases hmn : m < n
          · have hme : m < bytes.length := by have := HNN.out; omega
            have hIm : I + m < q.size := HRR.out.lt m hme
            obtain ⟨bb, hbb⟩ := byte_name bytes m hme
            have hbm := byte_of HRR.out m hme bb hbb.symm hIm
            have hlm : (s.data.toList.take p ++ bytes.take m).length ≤ 1048580 := by rw [List.length_append, List.length_take (l := bytes)]; have := HNN.out; have := HL.out; omega
            have HBB := Lib.hid hbb
            clear hbb
            go_wp2_with (at_builtin; refine buf_add rfl _ _ rfl [bb] _ rfl 1 rfl rfl rfl HBm.out (by omega) ?_)
            intro v3 w3 hb3
            have HB3 := Lib.hid (show Buf w.heap.size w w3 v3 (s.data.toList.take p ++ bytes.take (m + 1)) by rw [List.take_add_one, List.getElem?_eq_getElem hme, ← HBB.out]; simpa using hb3)
            clear hb3
            go_wp2_with fail
            go_roundw
            case rel => exact ⟨m + 1, by omega, by go_num, HB3.out⟩
            case measure => simp [intOf]; omega
          · obtain rfl : m = n := by omega
            have hIq : I + m ≤ q.size := by have h1 := HRR.out.size; rw [List.length_append] at h1; have h2 := HNN.out; omega
            have hL2 := HL.out
            have HB3 := Lib.hid (HNX.out _ _ (by have h := HBm.out; rw [List.take_of_length_le (Nat.le_of_eq HNN.out.symm)] at h; exact h))
            have hlq : I + bytes.length = I + m := by rw [HNN.out]
            rw [hlq] at HB3
            clear hlq
            go_wp2_with fail
            go_roundw
            case rel => exact ⟨I + m, p + k, f, by go_num, HB3.out⟩
            case measure => simp [intOf]; omega
      · subst ht
        subst hbq
        have hI : I < q.size := HRR.out.lt 0 (by simp)
        have hI1 : I + 1 < q.size := HRR.out.lt 1 (by simp)
        have hb := byte_of0 HRR.out (by simp) 92 rfl hI
        have hb2 := byte_of HRR.out 1 (by simp) e rfl hI1
        have b92 : ((92 : UInt8).toNat : Int) = 92 := rfl
        rw [b92] at hb
        simp only [escTab, List.mem_cons, Prod.mk.injEq, List.not_mem_nil, or_false] at htab
        rcases htab with ⟨rfl, rfl⟩ | ⟨rfl, rfl⟩ | ⟨rfl, rfl⟩ | ⟨rfl, rfl⟩ | ⟨rfl, rfl⟩ | ⟨rfl, rfl⟩ | ⟨rfl, rfl⟩ | ⟨rfl, rfl⟩ | ⟨rfl, rfl⟩
        · have hb3 : ((q[I + 1]'hI1).toNat : Int) = 34 := hb2
          clear hb2
          go_wp2_with (at_builtin; refine buf_add rfl _ _ rfl [34] _ rfl 1 rfl rfl rfl HD.out.1 (by omega) ?_)
          intro v1 w1 hb1
          have HB1 := Lib.hid (HNX.out w1 v1 hb1)
          clear hb1
          go_wp2_with fail
          go_roundw
          case rel => exact ⟨I + 2, p + k, f, by go_num, HB1.out⟩
          case measure => simp [intOf]; omega
        · have hb3 : ((q[I + 1]'hI1).toNat : Int) = 92 := hb2
          clear hb2
          go_wp2_with (at_builtin; refine buf_add rfl _ _ rfl [92] _ rfl 1 rfl rfl rfl HD.out.1 (by omega) ?_)
          intro v1 w1 hb1
          have HB1 := Lib.hid (HNX.out w1 v1 hb1)
          clear hb1
          go_wp2_with fail
          go_roundw
          case rel => exact ⟨I + 2, p + k, f, by go_num, HB1.out⟩
          case measure => simp [intOf]; omega
        · have hb3 : ((q[I + 1]'hI1).toNat : Int) = 97 := hb2
          clear hb2
          go_wp2_with (at_builtin; refine buf_add rfl _ _ rfl [7] _ rfl 1 rfl rfl rfl HD.out.1 (by omega) ?_)
          intro v1 w1 hb1
          have HB1 := Lib.hid (HNX.out w1 v1 hb1)
          clear hb1
          go_wp2_with fail
          go_roundw
          case rel => exact ⟨I + 2, p + k, f, by go_num, HB1.out⟩
          case measure => simp [intOf]; omega
        · have hb3 : ((q[I + 1]'hI1).toNat : Int) = 98 := hb2
          clear hb2
          go_wp2_with (at_builtin; refine buf_add rfl _ _ rfl [8] _ rfl 1 rfl rfl rfl HD.out.1 (by omega) ?_)
          intro v1 w1 hb1
          have HB1 := Lib.hid (HNX.out w1 v1 hb1)
          clear hb1
          go_wp2_with fail
          go_roundw
          case rel => exact ⟨I + 2, p + k, f, by go_num, HB1.out⟩
          case measure => simp [intOf]; omega
        · have hb3 : ((q[I + 1]'hI1).toNat : Int) = 102 := hb2
          clear hb2
          go_wp2_with (at_builtin; refine buf_add rfl _ _ rfl [12] _ rfl 1 rfl rfl rfl HD.out.1 (by omega) ?_)
          intro v1 w1 hb1
          have HB1 := Lib.hid (HNX.out w1 v1 hb1)
          clear hb1
          go_wp2_with fail
          go_roundw
          case rel => exact ⟨I + 2, p + k, f, by go_num, HB1.out⟩
          case measure => simp [intOf]; omega
        · have hb3 : ((q[I + 1]'hI1).toNat : Int) = 110 := hb2
          clear hb2
          go_wp2_with (at_builtin; refine buf_add rfl _ _ rfl [10] _ rfl 1 rfl rfl rfl HD.out.1 (by omega) ?_)
          intro v1 w1 hb1
          have HB1 := Lib.hid (HNX.out w1 v1 hb1)
          clear hb1
          go_wp2_with fail
          go_roundw
          case rel => exact ⟨I + 2, p + k, f, by go_num, HB1.out⟩
          case measure => simp [intOf]; omega
        · have hb3 : ((q[I + 1]'hI1).toNat : Int) = 114 := hb2
          clear hb2
          go_wp2_with (at_builtin; refine buf_add rfl _ _ rfl [13] _ rfl 1 rfl rfl rfl HD.out.1 (by omega) ?_)
          intro v1 w1 hb1
          have HB1 := Lib.hid (HNX.out w1 v1 hb1)
          clear hb1
          go_wp2_with fail
          go_roundw
          case rel => exact ⟨I + 2, p + k, f, by go_num, HB1.out⟩
          case measure => simp [intOf]; omega
        · have hb3 : ((q[I + 1]'hI1).toNat : Int) = 116 := hb2
          clear hb2
          go_wp2_with (at_builtin; refine buf_add rfl _ _ rfl [9] _ rfl 1 rfl rfl rfl HD.out.1 (by omega) ?_)
          intro v1 w1 hb1
          have HB1 := Lib.hid (HNX.out w1 v1 hb1)
          clear hb1
          go_wp2_with fail
          go_roundw
          case rel => exact ⟨I + 2, p + k, f, by go_num, HB1.out⟩
          case measure => simp [intOf]; omega
        · have hb3 : ((q[I + 1]'hI1).toNat : Int) = 118 := hb2
          clear hb2
          go_wp2_with (at_builtin; refine buf_add rfl _ _ rfl [11] _ rfl 1 rfl rfl rfl HD.out.1 (by omega) ?_)
          intro v1 w1 hb1
          have HB1 := Lib.hid (HNX.out w1 v1 hb1)
          clear hb1
          go_wp2_with fail
          go_roundw
          case rel => exact ⟨I + 2, p + k, f, by go_num, HB1.out⟩
          case measure => simp [intOf]; omega
      · subst ht
        subst hbq
        have hI : I < q.size := HRR.out.lt 0 (by simp)
        have hI1 : I + 1 < q.size := HRR.out.lt 1 (by simp)
        have hb0 := byte_of0 HRR.out (by simp) 92 rfl hI
        have hb2 := byte_of HRR.out 1 (by simp) 120 rfl hI1
        have b92 : ((92 : UInt8).toNat : Int) = 92 := rfl
        have bL : ((120 : UInt8).toNat : Int) = 120 := rfl
        rw [b92] at hb0
        rw [bL] at hb2
        have HR2 : Hid (Rest q (I + 2) (FmtText.hexDigits b 2 ++ left s.data.toList f (p + k))) := (show Rest q I ([92, 120] ++ (FmtText.hexDigits b 2 ++ left s.data.toList f (p + k))) from HRR.out).skip
        clear b92 bL
        go_wp2_with fail
        refine (hexn q (I + 2) b 2 _ (by omega) (by simpa using hb) HR2.out.hexroom (by omega) HR2.out.hex).mono ?_
        rintro e _ ⟨rfl, rfl⟩
        have HG : Hid ([Value.int .u8 (b : Int)] = cellsOf [UInt8.ofNat b]) := by rw [cell_byte b hb]; exact rfl
        have HLEN : Hid (I + (92 :: 120 :: FmtText.hexDigits b 2).length = I + 4) := rfl
        have hb256 : ¬ (b : Int) < 0 := by omega
        go_wp2_with (at_builtin; refine buf_add rfl _ _ rfl [UInt8.ofNat b] _ HG.out 1 rfl rfl rfl HD.out.1 (by omega) ?_)
        intro v1 w1 hb1
        have HB1 := Lib.hid (HNX.out w1 v1 hb1)
        clear hb1
        go_wp2_with fail
        go_roundw
        case rel => exact ⟨I + 4, p + k, f, by go_num, HB1.out⟩
        case measure => simp [intOf]; omega
      · subst ht
        rw [hbq] at HTK HNX
        have hI : I < q.size := HRR.out.lt 0 (by simp)
        have hI1 : I + 1 < q.size := HRR.out.lt 1 (by simp)
        have hb0 := byte_of0 HRR.out (by simp) 92 rfl hI
        have hb2 := byte_of HRR.out 1 (by simp) 117 rfl hI1
        have b92 : ((92 : UInt8).toNat : Int) = 92 := rfl
        have bL : ((117 : UInt8).toNat : Int) = 117 := rfl
        rw [b92] at hb0
        rw [bL] at hb2
        have HR2 : Hid (Rest q (I + 2) (FmtText.hexDigits r 4 ++ left s.data.toList f (p + k))) := (show Rest q I ([92, 117] ++ (FmtText.hexDigits r 4 ++ left s.data.toList f (p + k))) from HRR.out).skip
        clear b92 bL
        go_wp2_with fail
        refine (hexn q (I + 2) r 4 _ (by omega) (by omega) HR2.out.hexroom (by omega) HR2.out.hex).mono ?_
        rintro e _ ⟨rfl, rfl⟩
        have hneg : ¬ (r : Int) < 0 := by omega
        go_wp2_with fail
        refine (append_rune _ _ _ _ _ r (by omega) (r3) HD.out.1 (by omega)).mono ?_
        rintro e w1 ⟨v1, rfl, hb1⟩
        have HB1 := Lib.hid (HNX.out w1 v1 hb1)
        clear hb1
        go_wp2_with fail
        go_roundw
        case rel => exact ⟨I + 6, p + k, f, by go_num, HB1.out⟩
        case measure => simp [intOf]; omega
      · subst ht
        rw [hbq] at HTK HNX
        have hI : I < q.size := HRR.out.lt 0 (by simp)
        have hI1 : I + 1 < q.size := HRR.out.lt 1 (by simp)
        have hb0 := byte_of0 HRR.out (by simp) 92 rfl hI
        have hb2 := byte_of HRR.out 1 (by simp) 85 rfl hI1
        have b92 : ((92 : UInt8).toNat : Int) = 92 := rfl
        have bL : ((85 : UInt8).toNat : Int) = 85 := rfl
        rw [b92] at hb0
        rw [bL] at hb2
        have HR2 : Hid (Rest q (I + 2) (FmtText.hexDigits r 8 ++ left s.data.toList f (p + k))) := (show Rest q I ([92, 85] ++ (FmtText.hexDigits r 8 ++ left s.data.toList f (p + k))) from HRR.out).skip
        clear b92 bL
        go_wp2_with fail
        refine (hexn q (I + 2) r 8 _ (by omega) (by omega) HR2.out.hexroom (by omega) HR2.out.hex).mono ?_
        rintro e _ ⟨rfl, rfl⟩
        have hneg : ¬ (r : Int) < 0 := by omega
        go_wp2_with fail
        refine (append_rune _ _ _ _ _ r (by omega) (.inr ⟨by omega, r2⟩) HD.out.1 (by omega)).mono ?_
        rintro e w1 ⟨v1, rfl, hb1⟩
        have HB1 := Lib.hid (HNX.out w1 v1 hb1)
        clear hb1
        go_wp2_with fail
        go_roundw
        case rel => exact ⟨I + 10, p + k, f, by go_num, HB1.out⟩
        case measure => simp [intOf]; omega
end Go.Proofs.YtiofodmlgneieaaGreatFmt
