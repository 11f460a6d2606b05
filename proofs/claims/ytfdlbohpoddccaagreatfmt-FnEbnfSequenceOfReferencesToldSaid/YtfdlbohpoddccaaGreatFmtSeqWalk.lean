/- n025_51.FnEbnfSequenceOfReferences: the walk. The seat's flags: -reflectrows -leanrows (see REPORT.md, TRANSLATOR). -/
import Derived.Test.YtfdlbohpoddccaaGreatFmtEi
namespace Go.Proofs.YtfdlbohpoddccaaGreatFmt
open Go.RowKit
def AllAscii (S : Nat → ByteArray) (k : Nat) : Prop := ∀ i, i < k → AsciiS (S i)
theorem allascii_step {S : Nat → ByteArray} {k : Nat} (h : AllAscii S k) (hk : AsciiS (S k)) : AllAscii S (k + 1) := fun i hi => by
  by_cases e : i = k
  · subst e; exact hk
  · exact h i (by omega)
theorem ebnfseq_any (w : World) (q : Option Addr) (txt : ByteArray) (hP : Pr w.heap.size w true (.iface 40 (.pointer q)) txt) (hsz : txt.size ≤ 1000000000000) :
    Calls Tryz.prog 11 #[.pointer q] w fun e w' => e = .returned (.string txt) ∧ Below w.heap.size w w' := by
  have HP := Lib.hid hP
  have HS := Lib.hid hsz
  clear hP hsz
  go_enter Tryz.func11, Tryz.ntmps11
  go_wp2_with fail
  refine (ebnf_sequence q txt _ HP.out HS.out).mono ?_
  rintro e w2 ⟨rfl, hb⟩
  have HB := Lib.hid hb
  clear hb
  go_wp2_with fail
  go_ret
  exact ⟨rfl, HB.out⟩
theorem str_seq (w : World) (q : Option Addr) (txt : ByteArray) (hP : Pr w.heap.size w true (.iface 40 (.pointer q)) txt) (hsz : txt.size ≤ 1000000000000) :
    Calls Tryz.prog 22 #[.pointer q] w fun e w' => e = .returned (.string txt) ∧ Below w.heap.size w w' := by
  have HP := Lib.hid hP
  have HS := Lib.hid hsz
  clear hP hsz
  go_enter Tryz.func22, Tryz.ntmps22
  go_wp2_with fail
  refine (ebnf_sequence q txt _ HP.out HS.out).mono ?_
  rintro e w2 ⟨rfl, hb⟩
  have HB := Lib.hid hb
  clear hb
  go_wp2_with fail
  go_ret
  exact ⟨rfl, HB.out⟩
theorem seqstring_any (w : World) (q : Option Addr) (txt : ByteArray) (hP : Pr w.heap.size w true (.iface 40 (.pointer q)) txt) (hsz : txt.size ≤ 1000000000000) :
    Calls Tryz.prog 13 #[.pointer q] w fun e w' => e = .returned (.string txt) ∧ Below w.heap.size w w' := by
  have HP := Lib.hid hP
  have HS := Lib.hid hsz
  clear hP hsz
  go_enter Tryz.func13, Tryz.ntmps13
  go_wp2_with fail
  refine (str_seq _ q txt HP.out HS.out).mono ?_
  rintro e w2 ⟨rfl, hb⟩
  have HB := Lib.hid hb
  clear hb
  go_wp2_with fail
  go_ret
  exact ⟨rfl, HB.out⟩
theorem want_room {S : Nat → ByteArray} {n k : Nat} (h : SizedTo S n) (hk : k < n) (hn : n ≤ 1024) :
    ¬ ((seqTxt (refs S k)).size + (⟨#[32]⟩ : ByteArray).size > 9223372036854775807) ∧ ¬ ((seqTxt (refs S k) ++ ⟨#[32]⟩).size + (refTxt (S k)).size > 9223372036854775807) ∧ ¬ ((seqTxt (refs S k)).size + (refTxt (S k)).size > 9223372036854775807) := by
  have hs5 : (S k).size ≤ 1048576 := h k hk
  have hr5 := refTxt_size (S k)
  have ht5 := refs_size (S := S) (n := k) (fun i hi => h i (by omega))
  have h2 : k * 1048579 ≤ 1024 * 1048579 := Nat.mul_le_mul_right _ (by omega)
  have z1 : (⟨#[32]⟩ : ByteArray).size = 1 := rfl
  rw [ByteArray.size_append]
  omega
set_option maxHeartbeats 4000000 in
set_option maxRecDepth 100000 in
theorem walk (w : World) (ao : Option Addr) (n cap : Nat) (S : Nat → ByteArray) (h0 : ao = none → n = 0 ∧ cap = 0) (hS : StrsIn w ao n S) (hn : n ≤ 9223372036854775807) :
    Calls Tryz.prog 3 #[.slice ao n cap] w fun e w' => e = .returned (.bool true) ∧ Below w.heap.size w w' := by
  have HS := Lib.hid hS
  have H0 := Lib.hid h0
  clear hS h0
  go_enter Tryz.func3, Tryz.ntmps3
  go_wp2_with fail
  refine (zz_any w ao n cap S HS.out hn).mono ?_
  rintro e _ ⟨hz, rfl⟩
  rcases hz with rfl | ⟨rfl, hn1, hZ⟩
  · go_wp2_with fail
    go_ret
    exact ⟨rfl, Below.refl _ _⟩
  have HZ := Lib.hid hZ
  clear hZ
  by_cases hA : (65536 : Int) < (n : Int)
  · go_wp2_with fail
    go_ret
    exact ⟨rfl, Below.refl _ _⟩
  go_wp2_with fail
  go_loop [3, 4] (fun m i => ∃ (k : Nat) (q : Int), k ≤ n ∧ i = .int .i64 k ∧ m = .int .i64 q) (fun _ i => n - (intOf i).toNat)
  case atStart => exact ⟨0, _, Nat.zero_le _, rfl, rfl⟩
  case round =>
    obtain ⟨k, q, hk, rfl, rfl⟩ := hrel
    by_cases hkn : k < n
    · obtain ⟨b, off, rfl, hb, hc⟩ := HS.out (by omega)
      have hc' := hc k hkn
      clear hc
      go_wp2_with fail
      · go_ret
        exact ⟨rfl, Below.refl _ _⟩
      · go_round
        case rel => exact ⟨k + 1, _, by omega, by go_num, rfl⟩
        case measure => simp [intOf]; omega
    · by_cases hB : (1024 : Int) < (n : Int)
      · go_wp2_with fail
        go_ret
        exact ⟨rfl, Below.refl _ _⟩
      go_wp2_with fail
      go_loop [5, 6] (fun m i => ∃ (k : Nat) (q : Int), k ≤ n ∧ i = .int .i64 k ∧ m = .int .i64 q) (fun _ i => n - (intOf i).toNat)
      case atStart => exact ⟨0, _, Nat.zero_le _, rfl, rfl⟩
      case round =>
        obtain ⟨k2, q2, hk2, rfl, rfl⟩ := hrel
        by_cases hkn2 : k2 < n
        · obtain ⟨b, off, rfl, hb, hc⟩ := HS.out (by omega)
          have hc' := hc k2 hkn2
          clear hc
          go_wp2_with fail
          go_round
          case rel => exact ⟨k2 + 1, _, by omega, by go_num, rfl⟩
          case measure => simp [intOf]; omega
        · go_wp2_with fail
          · go_ret
            exact ⟨rfl, Below.refl _ _⟩
          · go_ret
            exact ⟨rfl, Below.refl _ _⟩
          have hx : ((n : Int) == 0) = false := by assumption
          have HNZ : Hid (¬ n = 0) := by
            intro h
            subst h
            simp at hx
          clear hx
          go_loop [7] (fun i => ∃ k : Nat, k ≤ n ∧ i = .int .i64 k ∧ Hid (AllAscii S k)) (fun i => n - (intOf i).toNat)
          case atStart => exact ⟨0, Nat.zero_le _, rfl, fun i hi => absurd hi (Nat.not_lt_zero i)⟩
          case round =>
            obtain ⟨k3, hk3, rfl, HAS⟩ := hrel
            by_cases hkn3 : k3 < n
            · obtain ⟨b, off, rfl, hb, hc⟩ := HS.out (by omega)
              have hc' := hc k3 hkn3
              clear hc
              go_wp2_with fail
              refine (ident_any (S k3) _ (by have := HZ.out k3 hkn3; omega)).mono ?_
              rintro e _ ⟨hid, rfl⟩
              rcases hid with rfl | ⟨rfl, has⟩
              · go_wp2_with fail
                go_ret
                exact ⟨rfl, Below.refl _ _⟩
              · have HAS3 := Lib.hid has
                clear has
                go_wp2_with fail
                go_round
                case rel => exact ⟨k3 + 1, by omega, by go_num, allascii_step HAS.out HAS3.out⟩
                case measure => simp [intOf]; omega
            · have HASC : Hid (AllAscii S n) := fun i hi => HAS.out i (by omega)
              go_wp2_with fail
              refine (clone_any w ao n cap S H0.out HS.out hn1).mono ?_
              rintro e w1 ⟨vo, vc, rfl, hv, hb1⟩
              have HV := Lib.hid hv
              have HB1 := Lib.hid hb1
              clear hv hb1
              go_wp2_with go_in
              go_loopw [8, 9] (fun sq i wr => ∃ (k : Nat) (x : Int) (q : Option Addr), k ≤ n ∧ x + 1 = (k : Int) ∧ sq = .pointer q ∧ i = .int .i64 x ∧ Hid (Building w1 wr n k S q)) (fun _ i _ => (intOf i + 1).toNat)
              case atStart => exact ⟨n, (n : Int) - 1, none, Nat.le_refl _, by omega, rfl, by first | rfl | go_num, building_start w1 n S⟩
              case round =>
                obtain ⟨k4, x4, q4, hk4, hx4, rfl, rfl, HBD⟩ := hrel
                cases k4 with
                | succ k4 =>
                  obtain rfl : x4 = (k4 : Int) := by omega
                  have hkn4 : k4 < n := by omega
                  obtain ⟨b, off, hvo, hb, hc⟩ := HV.out (by omega)
                  subst hvo
                  have hc' : wr.cell? ⟨b, off + k4, none⟩ = some (.string (S k4)) := (HBD.out.2.cell hb).trans (hc k4 hkn4)
                  clear hc hx4
                  go_wp2_with go_in
                  go_roundw
                  case rel => exact ⟨k4, (k4 : Int) - 1, _, by omega, by omega, rfl, by go_num, building_step HBD.out hkn4 (by have := HZ.out k4 hkn4; omega) (HASC.out k4 hkn4)⟩
                  case measure => simp [intOf]
                | zero =>
                  obtain rfl : x4 = -1 := by omega
                  have HSQ : Hid (SeqOf wr.heap.size wr (refs S n) q4) := HBD.out.1
                  have HSZ : Hid ((seqTxt (refs S n)).size ≤ 1000000000000) := by have h := refs_size HZ.out; have h2 : n * 1048579 ≤ 1024 * 1048579 := Nat.mul_le_mul_right _ (by omega); exact (by omega : (seqTxt (refs S n)).size ≤ 1000000000000)
                  have HNE : Hid (refs S n ≠ []) := fun h => by have h2 := refs_len S n; rw [h] at h2; exact HNZ.out (by simpa using h2.symm)
                  clear hx4
                  go_wp2_with fail
                  refine (ebnfseq_any wr q4 (seqTxt (refs S n)) (pr_seq_root _ _ _ _ HNE.out HSQ.out) HSZ.out).mono ?_
                  rintro e w5 ⟨rfl, hb5⟩
                  have HB5 := Lib.hid hb5
                  clear hb5
                  go_wp2_with fail
                  go_loopw [11, 12] (fun wt i wq => ∃ k : Nat, k ≤ n ∧ wt = .string (seqTxt (refs S k)) ∧ i = .int .i64 k ∧ Hid (Below w5.heap.size w5 wq)) (fun _ i _ => n - (intOf i).toNat)
                  case atStart => exact ⟨0, Nat.zero_le _, rfl, rfl, Below.refl _ _⟩
                  case round =>
                    obtain ⟨k5, hk5, rfl, rfl, HBQ⟩ := hrel
                    have HWQ : Hid (Below w1.heap.size w1 wr) := (HBD.out.2.trans (HB5.out.mono HBD.out.2.size)).trans (HBQ.out.mono (Nat.le_trans HBD.out.2.size HB5.out.size))
                    by_cases hkn5 : k5 < n
                    · obtain ⟨b, off, hvo, hb, hc⟩ := HV.out (by omega)
                      subst hvo
                      have hc' : wr.cell? ⟨b, off + k5, none⟩ = some (.string (S k5)) := (HWQ.out.cell hb).trans (hc k5 hkn5)
                      have hs5 : (S k5).size ≤ 1048576 := HZ.out k5 hkn5
                      obtain ⟨k1, k2, k3⟩ := want_room HZ.out hkn5 (Int.ofNat_le.1 hB)
                      clear hc
                      by_cases h05 : k5 = 0
                      · subst h05
                        have hc0 : wr.cell? ⟨b, off, none⟩ = some (.string (S 0)) := hc'
                        go_wp2_with fail
                        refine (ref_text (S 0) _ (by omega)).mono ?_
                        rintro e w6 ⟨rfl, hb6⟩
                        have HB6 := Lib.hid hb6
                        clear hb6
                        go_wp2_with fail
                        go_roundw
                        case rel => exact ⟨1, by omega, congrArg Value.string (want_first S), by go_num, HBQ.out.trans (HB6.out.mono HBQ.out.size)⟩
                        case measure => simp [intOf]; omega
                      · have hpos : (0 : Int) < (k5 : Int) := by omega
                        go_wp2_with fail
                        refine (ref_text (S k5) _ (by omega)).mono ?_
                        rintro e w6 ⟨rfl, hb6⟩
                        have HB6 := Lib.hid hb6
                        clear hb6
                        go_wp2_with fail
                        go_roundw
                        case rel => exact ⟨k5 + 1, by omega, congrArg Value.string (want_step h05), by go_num, HBQ.out.trans (HB6.out.mono HBQ.out.size)⟩
                        case measure => simp [intOf]; omega
                    · obtain rfl : k5 = n := by omega
                      go_wp2_with fail
                      refine (seqstring_any wr q4 (seqTxt (refs S k5)) ((pr_seq_root _ _ _ _ HNE.out HSQ.out).mono (HB5.out.trans (HBQ.out.mono HB5.out.size)) (Nat.le_trans HB5.out.size HBQ.out.size)) HSZ.out).mono ?_
                      rintro e w7 ⟨rfl, hb7⟩
                      have HB7 := Lib.hid hb7
                      clear hb7
                      go_wp2_with fail
                      go_ret
                      exact ⟨rfl, (HB1.out.trans (HWQ.out.mono HB1.out.size)).trans (HB7.out.mono (Nat.le_trans HB1.out.size HWQ.out.size))⟩
end Go.Proofs.YtfdlbohpoddccaaGreatFmt
