/- n025_51.FnEbnfDisjunctionOfAlternatives: the law's walk. The seat's flags: -reflectrows -leanrows (see REPORT.md, TRANSLATOR). -/
import Derived.Test.YtfmlfaankmnfjaaGreatFmtZ6
namespace Go.Proofs.YtfmlfaankmnfjaaGreatFmt
open Go.RowKit
theorem want_alt0' (N : Nat → Nat) (S : Nat → Nat → ByteArray) {pre t : ByteArray} (hp : pre = altTxt (alts N S 0)) (ht : altOne N S 0 = t) : pre ++ t = altTxt (alts N S (0 + 1)) := by
  rw [hp, ← ht]
  exact want_alt0 N S
theorem want_alt' {N : Nat → Nat} {S : Nat → Nat → ByteArray} {k : Nat} (h : k ≠ 0) {pre t : ByteArray} (hp : pre = altTxt (alts N S k) ++ ⟨#[32, 124, 32]⟩) (ht : altOne N S k = t) : pre ++ t = altTxt (alts N S (k + 1)) := by
  rw [hp, ← ht]
  exact want_alt h
theorem par_cats {pre s : ByteArray} (hp : pre.size ≤ 1100000003) (hs : s.size ≤ 1073744896) (t : ByteArray) (ht : t.size ≤ 1048576) :
    ¬ ((pre ++ ⟨#[40]⟩ ++ s).size + (⟨#[32]⟩ : ByteArray).size > 9223372036854775807) ∧ ¬ ((pre ++ ⟨#[40]⟩ ++ s ++ ⟨#[32]⟩).size + (refTxt t).size > 9223372036854775807) ∧ ¬ ((pre ++ ⟨#[40]⟩ ++ s).size + (refTxt t).size > 9223372036854775807) := by
  have z1 : (⟨#[40]⟩ : ByteArray).size = 1 := rfl
  have z2 : (⟨#[32]⟩ : ByteArray).size = 1 := rfl
  have z3 := refTxt_size t
  simp only [ByteArray.size_append]
  omega
theorem par_close {pre s : ByteArray} (hp : pre.size ≤ 1100000003) (hs : s.size ≤ 1073744896) : ¬ ((pre ++ ⟨#[40]⟩ ++ s).size + (⟨#[41]⟩ : ByteArray).size > 9223372036854775807) := by
  have z1 : (⟨#[40]⟩ : ByteArray).size = 1 := rfl
  have z2 : (⟨#[41]⟩ : ByteArray).size = 1 := rfl
  simp only [ByteArray.size_append]
  omega
theorem par_first (pre : ByteArray) (S : Nat → ByteArray) : pre ++ ⟨#[40]⟩ ++ seqTxt (refs S 0) ++ refTxt (S 0) = pre ++ ⟨#[40]⟩ ++ seqTxt (refs S 1) := by
  have h := want_first S
  have e : seqTxt (refs S 0) = ⟨#[]⟩ := rfl
  rw [e, ← h]
  exact ByteArray.ext (by simp [ByteArray.data_append])
theorem par_next (pre : ByteArray) (S : Nat → ByteArray) {m : Nat} (h : m ≠ 0) : pre ++ ⟨#[40]⟩ ++ seqTxt (refs S m) ++ ⟨#[32]⟩ ++ refTxt (S m) = pre ++ ⟨#[40]⟩ ++ seqTxt (refs S (m + 1)) := by
  rw [← want_step h]
  exact ByteArray.ext (by simp [ByteArray.data_append])
theorem par_whole (pre : ByteArray) (ts : List ByteArray) : pre ++ ⟨#[40]⟩ ++ seqTxt ts ++ ⟨#[41]⟩ = pre ++ parTxt ts := by
  exact ByteArray.ext (by simp [ByteArray.data_append, parTxt])
set_option maxHeartbeats 8000000 in
set_option maxRecDepth 100000 in
theorem walkdisj (w : World) (ao : Option Addr) (n cap : Nat) (A : Nat → Option Addr) (N C : Nat → Nat) (S : Nat → Nat → ByteArray) (hS : AltsIn w ao n A N C S) (hn : n ≤ 9223372036854775807) :
    Calls Tryz.prog 3 #[.slice ao n cap] w fun e w' => e = .returned (.bool true) ∧ Below w.heap.size w w' := by
  have HS := Lib.hid hS
  clear hS
  go_enter Tryz.func3, Tryz.ntmps3
  go_wp2_with fail
  refine (zz2_any w ao n cap A N C S HS.out hn).mono ?_
  rintro e _ ⟨hz, rfl⟩
  rcases hz with rfl | ⟨rfl, hn1, hZ⟩
  · go_wp2_with fail
    go_ret
    exact ⟨rfl, Below.refl _ _⟩
  have HZ := Lib.hid hZ
  clear hZ
  by_cases hA : (65536 : Int) < (n : Int)
  · go_wp2_with fail
    go_ret
    exact ⟨rfl, Below.refl _ _⟩
  go_wp2_with fail
  go_loop [3, 4] (fun m i => ∃ (k : Nat) (q : Int), k ≤ n ∧ i = .int .i64 k ∧ m = .int .i64 q) (fun _ i => n - (intOf i).toNat)
  case atStart => exact ⟨0, _, Nat.zero_le _, rfl, rfl⟩
  case round =>
    obtain ⟨k, q, hk, rfl, rfl⟩ := hrel
    by_cases hkn : k < n
    · obtain ⟨b, off, rfl, hb, hc⟩ := HS.out (by omega)
      obtain ⟨hc', _, hst, hmx⟩ := hc k hkn
      have HST := Lib.hid hst
      have hNk : N k ≤ 1048576 := (HZ.out k hkn).1
      clear hc hst
      by_cases hbig : (65536 : Int) < (N k : Int)
      · go_wp2_with fail
        go_ret
        exact ⟨rfl, Below.refl _ _⟩
      go_wp2_with fail
      go_loop [3, 5] (fun m j => ∃ (k2 : Nat) (q2 : Int), k2 ≤ N k ∧ j = .int .i64 k2 ∧ m = .int .i64 q2) (fun _ j => N k - (intOf j).toNat)
      case atStart => exact ⟨0, _, Nat.zero_le _, rfl, rfl⟩
      case round =>
        obtain ⟨k2, q2, hk2, rfl, rfl⟩ := hrel
        by_cases hkn2 : k2 < N k
        · obtain ⟨b2, off2, hA2, hb2, hc2⟩ := HST.out (by omega)
          have hc2' := hc2 k2 hkn2
          clear hc2
          go_wp2_with fail
          · go_ret
            exact ⟨rfl, Below.refl _ _⟩
          · go_round
            case rel => exact ⟨k2 + 1, _, by omega, by go_num, rfl⟩
            case measure => simp [intOf]; omega
        · go_wp2_with fail
          · go_ret
            exact ⟨rfl, Below.refl _ _⟩
          · go_round
            case rel => exact ⟨k + 1, _, by omega, by go_num, rfl⟩
            case measure => simp [intOf]; omega
    · by_cases hB : (1024 : Int) < (n : Int)
      · go_wp2_with fail
        go_ret
        exact ⟨rfl, Below.refl _ _⟩
      have hn3 : n ≤ 1024 := by omega
      go_wp2_with fail
      go_loop [6, 7, 8] (fun m t i => ∃ (k : Nat) (q : Int), k ≤ n ∧ i = .int .i64 k ∧ m = .int .i64 ((cnt N k : Nat) : Int) ∧ t = .int .i64 q) (fun _ _ i => n - (intOf i).toNat)
      case atStart => exact ⟨0, _, Nat.zero_le _, rfl, rfl, rfl⟩
      case round =>
        obtain ⟨k3, q3, hk3, rfl, rfl, rfl⟩ := hrel
        by_cases hkn3 : k3 < n
        · obtain ⟨b, off, rfl, hb, hc⟩ := HS.out (by omega)
          obtain ⟨hc', _, hst, hmx⟩ := hc k3 hkn3
          have HST := Lib.hid hst
          have hNk : N k3 ≤ 1048576 := (HZ.out k3 hkn3).1
          have hcl : cnt N k3 ≤ 1073741824 := by have := cnt_le HZ.out k3 (by omega); omega
          clear hc hst
          go_wp2_with fail
          go_loop [7, 9] (fun t j => ∃ (k2 : Nat) (q2 : Int), k2 ≤ N k3 ∧ j = .int .i64 k2 ∧ t = .int .i64 q2) (fun _ j => N k3 - (intOf j).toNat)
          case atStart => exact ⟨0, _, Nat.zero_le _, rfl, rfl⟩
          case round =>
            obtain ⟨k2, q2, hk2, rfl, rfl⟩ := hrel
            by_cases hkn2 : k2 < N k3
            · obtain ⟨b2, off2, hA2, hb2, hc2⟩ := HST.out (by omega)
              have hc2' := hc2 k2 hkn2
              clear hc2
              go_wp2_with fail
              go_round
              case rel => exact ⟨k2 + 1, _, by omega, by go_num, rfl⟩
              case measure => simp [intOf]; omega
            · go_wp2_with fail
              go_round
              case rel => exact ⟨k3 + 1, _, by omega, by go_num, by rw [cnt]; go_num, rfl⟩
              case measure => simp [intOf]; omega
        · obtain rfl : k3 = n := by omega
          by_cases hCT : (1024 : Int) < ((cnt N k3 : Nat) : Int)
          · go_wp2_with fail
            go_ret
            exact ⟨rfl, Below.refl _ _⟩
          have HCT : Hid (cnt N k3 ≤ 1024) := (by omega : cnt N k3 ≤ 1024)
          by_cases h2 : (k3 : Int) < 2
          · go_wp2_with fail
            all_goals (go_ret; exact ⟨rfl, Below.refl _ _⟩)
          go_wp2_with fail
          · go_ret
            exact ⟨rfl, Below.refl _ _⟩
          go_loop [10] (fun i => ∃ k : Nat, k ≤ k3 ∧ i = .int .i64 k ∧ Hid (∀ i, i < k → N i ≠ 0 ∧ AllAscii (S i) (N i))) (fun i => k3 - (intOf i).toNat)
          case atStart => exact ⟨0, Nat.zero_le _, rfl, fun i hi => absurd hi (Nat.not_lt_zero i)⟩
          case round =>
            obtain ⟨k4, hk4, rfl, HAS⟩ := hrel
            by_cases hkn4 : k4 < k3
            · obtain ⟨b, off, rfl, hb, hc⟩ := HS.out (by omega)
              obtain ⟨hc', _, hst, hmx⟩ := hc k4 hkn4
              have HST := Lib.hid hst
              have HZ4 := Lib.hid (HZ.out k4 hkn4)
              clear hc hst
              by_cases h0 : N k4 = 0
              · have h0' : ((N k4 : Int) == 0) = true := by simp [h0]
                go_wp2_with fail
                go_ret
                exact ⟨rfl, Below.refl _ _⟩
              have h0' : ((N k4 : Int) == 0) = false := by simp [h0]
              have HN0 := Lib.hid h0
              obtain ⟨b2, off2, hAd, hb2, hc2⟩ := HST.out (by omega)
              have HC2 := Lib.hid hc2
              clear h0 hc2
              go_wp2_with fail
              go_loop [11] (fun j => ∃ k : Nat, k ≤ N k4 ∧ j = .int .i64 k ∧ Hid (AllAscii (S k4) k)) (fun j => N k4 - (intOf j).toNat)
              case atStart => exact ⟨0, Nat.zero_le _, rfl, fun i hi => absurd hi (Nat.not_lt_zero i)⟩
              case round =>
                obtain ⟨k2, hk2, rfl, HA2⟩ := hrel
                by_cases hkn2 : k2 < N k4
                · have hc2' := HC2.out k2 hkn2
                  go_wp2_with fail
                  refine (ident_any (S k4 k2) _ (by have := HZ4.out.2 k2 hkn2; omega)).mono ?_
                  rintro e _ ⟨hid, rfl⟩
                  rcases hid with rfl | ⟨rfl, has⟩
                  · go_wp2_with fail
                    go_ret
                    exact ⟨rfl, Below.refl _ _⟩
                  · have HAS3 := Lib.hid has
                    clear has
                    go_wp2_with fail
                    go_round
                    case rel => exact ⟨k2 + 1, by omega, by go_num, allascii_step HA2.out HAS3.out⟩
                    case measure => simp [intOf]; omega
                · have HNX : Hid (∀ i, i < k4 + 1 → N i ≠ 0 ∧ AllAscii (S i) (N i)) := fun i hi => by
                    by_cases e : i = k4
                    · subst e; exact ⟨HN0.out, fun j hj => HA2.out j (by omega)⟩
                    · exact HAS.out i (by omega)
                  go_wp2_with fail
                  go_round
                  case rel => exact ⟨k4 + 1, by omega, by go_num, HNX.out⟩
                  case measure => simp [intOf]; omega
            · have HG : Hid (Good k3 N S) := ⟨hn3, by omega, HZ.out, HCT.out, fun i hi => (HAS.out i (by omega)).1, fun i hi => (HAS.out i (by omega)).2⟩
              have hm := run_make_row' (P := Tryz.prog) 36 38 (.slice none 0 0) 24 Tryz.underlying36 infoStrs rfl .i64 .i64 k3 (by omega) (by omega)
              clear HAS HCT h2 hCT
              go_wp2_with fail
              go_loopw [13] (fun i wr => ∃ (k : Nat) (V : Nat → Option Addr) (VC : Nat → Nat), k ≤ k3 ∧ i = .int .i64 k ∧ Hid (Cps w wr k3 k V VC N S)) (fun i _ => k3 - (intOf i).toNat)
              case atStart => exact ⟨0, fun _ => none, fun _ => 0, Nat.zero_le _, rfl, cps_start w k3 _ _ N S⟩
              case round =>
                obtain ⟨k5, V, VC, hk5, rfl, HCP⟩ := hrel
                by_cases hkn5 : k5 < k3
                · obtain ⟨b, off, rfl, hb, hc⟩ := HS.out (by omega)
                  obtain ⟨hc', hnil, hst, hmx⟩ := hc k5 hkn5
                  have hcr : wr.cell? ⟨b, off + k5, none⟩ = some (.slice (A k5) (N k5) (C k5)) := (HCP.out.2.1.cell hb).trans hc'
                  have HST : Hid (StrsIn wr (A k5) (N k5) (S k5)) := hst.carry HCP.out.2.1
                  have HNIL := Lib.hid hnil
                  clear hc hst hc' hnil
                  have hNk : N k5 ≤ 1048576 := (HZ.out k5 hkn5).1
                  go_wp2_with fail
                  refine (clone_any wr (A k5) (N k5) (C k5) (S k5) HNIL.out HST.out hNk).mono ?_
                  rintro e w5 ⟨vo, vc, rfl, hv, hb5⟩
                  have HC2 := Lib.hid (cps_step (vc := vc) HCP.out hv hb5)
                  have hrow5 : w5.rowIs w.heap.size 38 k3 (fun i => if i < k5 then .slice (V i) (N i) (VC i) else .slice none 0 0) := by
                    obtain ⟨c, h1, h2, h3⟩ := HCP.out.1
                    exact ⟨c, (hb5.block _ (heap_lt h1)).trans h1, h2, h3⟩
                  have hc5 := hrow5.cell hkn5
                  have hf5 := hrow5.frozen k5
                  clear hv hb5 hrow5
                  go_wp2_with fail
                  go_roundw
                  case rel => exact ⟨k5 + 1, _, _, by omega, by go_num, HC2.out⟩
                  case measure => simp [intOf]; omega
                · have HAL := Lib.hid (cps_end HCP.out (by omega) (fun i hi => ⟨HG.out.full i hi, (HG.out.sized i hi).1⟩))
                  have HBC : Hid (Below w.heap.size w wr) := HCP.out.2.1
                  clear HCP
                  rename World => wa
                  go_wp2_with fail
                  refine (disjnew wa).mono ?_
                  rintro e w6 ⟨rfl, rfl⟩
                  have HD0 := Lib.hid (disj_start wa N S)
                  go_wp2_with fail
                  go_loopw [15] (fun i wd => ∃ (k : Nat) (xs : List Value), k ≤ k3 ∧ i = .int .i64 k ∧ Hid (DisjH wa wd wa.heap.size k xs N S)) (fun i _ => k3 - (intOf i).toNat)
                  case atStart => exact ⟨0, [], Nat.zero_le _, rfl, HD0.out⟩
                  case round =>
                    rename World => wd
                    obtain ⟨k6, xs, hk6, rfl, HDD⟩ := hrel
                    have HBD : Hid (Below wa.heap.size wa wd) := by obtain ⟨_, _, _, _, h⟩ := HDD.out; exact h
                    have HAD := Lib.hid (HAL.out.carry HBD.out)
                    by_cases hkn6 : k6 < k3
                    · obtain ⟨b, off, hvo, hb, hc⟩ := HAD.out (by omega)
                      obtain ⟨hc', _, hst, hmx⟩ := hc k6 hkn6
                      simp only [Option.some.injEq, Addr.mk.injEq, and_true] at hvo
                      obtain ⟨rfl, rfl⟩ := hvo
                      rw [Nat.zero_add] at hc'
                      have HST := Lib.hid hst
                      clear hc hst
                      by_cases h1 : N k6 = 1
                      · have h1' : ((N k6 : Int) == 1) = true := by simp [h1]
                        obtain ⟨b2, off2, hAd, hb2, hc2⟩ := HST.out (by omega)
                        have hc2' : wd.cell? ⟨b2, off2, none⟩ = some (.string (S k6 0)) := hc2 0 (by omega)
                        have hpos : 0 < N k6 := by omega
                        have H1 := Lib.hid h1
                        clear hc2 h1
                        go_wp2_with (go_at_call 10; go_in)
                        have hbr : Below wd.heap.size wd (wd.alloc (.cells #[.int .i64 0, .string (S k6 0)] 59)) := (Below.refl _ wd).alloc (Nat.le_refl _) _
                        refine (addRef wa _ wa.heap.size k6 (some ⟨wd.heap.size, 0, none⟩) xs N S (HDD.out.carry hbr) ⟨fun _ => ⟨wd.heap.size, rfl, heap_alloc_new wd _⟩, fun h => absurd H1.out h⟩ (by omega)).mono ?_
                        rintro e w7 ⟨rfl, xs', hd7⟩
                        have HD7 := Lib.hid hd7
                        clear hd7 hbr
                        go_wp2_with fail
                        go_roundw
                        case rel => exact ⟨k6 + 1, xs', by omega, by go_num, HD7.out⟩
                        case measure => simp [intOf]; omega
                      · have h1' : ((N k6 : Int) == 1) = false := by simp; omega
                        have H1 := Lib.hid h1
                        have hNk : N k6 ≤ 1048576 := (HZ.out k6 hkn6).1
                        obtain ⟨b2, off2, hAd, hb2, hc2⟩ := HST.out (Nat.pos_of_ne_zero (HG.out.full k6 hkn6))
                        have HC2 := Lib.hid hc2
                        clear h1 hc2
                        go_wp2_with go_in
                        go_loopw [17, 18] (fun sq j we => ∃ (k : Nat) (x : Int) (q : Option Addr), k ≤ N k6 ∧ x + 1 = (k : Int) ∧ sq = .pointer q ∧ j = .int .i64 x ∧ Hid (BuildH wd we (N k6) k (S k6) q)) (fun _ j _ => (intOf j + 1).toNat)
                        case atStart => exact ⟨N k6, (N k6 : Int) - 1, none, Nat.le_refl _, by omega, rfl, by first | rfl | go_num, buildh_start wd (N k6) (S k6)⟩
                        case round =>
                          rename World => we
                          obtain ⟨k7, x7, q7, hk7, hx7, rfl, rfl, HBD7⟩ := hrel
                          cases k7 with
                          | succ k7 =>
                            obtain rfl : x7 = (k7 : Int) := by omega
                            have hkn7 : k7 < N k6 := by omega
                            have hc2' : we.cell? ⟨b2, off2 + k7, none⟩ = some (.string (S k6 k7)) := (HBD7.out.2.cell hb2).trans (HC2.out k7 hkn7)
                            clear hx7
                            go_wp2_with go_in
                            go_roundw
                            case rel => exact ⟨k7, (k7 : Int) - 1, _, by omega, by omega, rfl, by go_num, buildh_step HBD7.out hkn7⟩
                            case measure => simp [intOf]
                          | zero =>
                            obtain rfl : x7 = -1 := by omega
                            have HCH : Hid (ChainH we (idl (S k6) (N k6)) q7) := HBD7.out.1
                            clear hx7
                            go_wp2_with fail
                            refine (addSeq wa _ wa.heap.size k6 q7 xs N S (HDD.out.carry HBD7.out.2) ⟨fun h => absurd h H1.out, fun _ => ⟨q7, rfl, HCH.out⟩⟩ (by omega)).mono ?_
                            rintro e w7 ⟨rfl, xs', hd7⟩
                            have HD7 := Lib.hid hd7
                            clear hd7
                            go_wp2_with fail
                            go_roundw
                            case rel => exact ⟨k6 + 1, xs', by omega, by go_num, HD7.out⟩
                            case measure => simp [intOf]; omega
                    · obtain rfl : k6 = k3 := by omega
                      have HP : Hid (Pr wd.heap.size wd true (.iface 41 (.pointer (some ⟨wa.heap.size, 0, none⟩))) (altTxt (alts N S k6))) :=
                        pr_disj _ _ _ _ (by rw [alts_len]; omega) (HDD.out.at HG.out.n0 HG.out.full HG.out.sized HG.out.ascii)
                      have HT := Lib.hid HG.out.txt
                      go_wp2_with fail
                      refine (ebnfdisj_any wd (some ⟨wa.heap.size, 0, none⟩) (altTxt (alts N S k6)) HP.out HT.out).mono ?_
                      rintro e w8 ⟨rfl, hb8⟩
                      have HB8 := Lib.hid hb8
                      clear hb8
                      go_wp2_with fail
                      go_loopw [20, 21] (fun wt i wq => ∃ k : Nat, k ≤ k6 ∧ wt = .string (altTxt (alts N S k)) ∧ i = .int .i64 k ∧ Hid (Below w8.heap.size w8 wq)) (fun _ i _ => k6 - (intOf i).toNat)
                      case atStart => exact ⟨0, Nat.zero_le _, rfl, rfl, Below.refl _ _⟩
                      case round =>
                        rename World => wq
                        obtain ⟨k9, hk9, rfl, rfl, HBQ⟩ := hrel
                        have HWQ : Hid (Below wd.heap.size wd wq) := HB8.out.trans (HBQ.out.mono HB8.out.size)
                        by_cases hkn9 : k9 < k6
                        · obtain ⟨b, off, hvo, hb, hc⟩ := HAD.out.carry HWQ.out (by omega)
                          obtain ⟨hc', _, hst, hmx⟩ := hc k9 hkn9
                          simp only [Option.some.injEq, Addr.mk.injEq, and_true] at hvo
                          obtain ⟨rfl, rfl⟩ := hvo
                          rw [Nat.zero_add] at hc'
                          have HST := Lib.hid hst
                          have HZ9 := Lib.hid (HZ.out k9 hkn9)
                          have HW9 := Lib.hid (HG.out.wanted (k := k9) (by omega))
                          have HN9 := Lib.hid (HG.out.few hkn9)
                          clear hc hst
                          by_cases h09 : k9 = 0
                          · subst h09
                            obtain ⟨pre, hpre⟩ : ∃ pre : ByteArray, pre = altTxt (alts N S 0) := ⟨_, rfl⟩
                            have HPRE := Lib.hid hpre
                            have hps : pre.size ≤ 1100000003 := by rw [hpre]; have := HW9.out; omega
                            rw [← hpre]
                            clear hpre
                            by_cases h1 : N 0 = 1
                            · have h1' : ((N 0 : Int) == 1) = true := by simp [h1]
                              obtain ⟨b2, off2, hAd, hb2, hc2⟩ := HST.out (by omega)
                              have hc2' : wq.cell? ⟨b2, off2, none⟩ = some (.string (S 0 0)) := hc2 0 (by omega)
                              have hs2 : (S 0 0).size ≤ 1048576 := HZ9.out.2 0 (by omega)
                              have hrs := refTxt_size (S 0 0)
                              have kr : ¬ (pre.size + (refTxt (S 0 0)).size > 9223372036854775807) := by omega
                              have hpn : 0 < N 0 := by omega
                              have H1 := Lib.hid h1
                              clear hc2 h1
                              go_wp2_with fail
                              refine (ref_text (S 0 0) _ (by omega)).mono ?_
                              rintro e w9 ⟨rfl, hb9⟩
                              have HB9 := Lib.hid hb9
                              clear hb9
                              go_wp2_with fail
                              go_roundw
                              case rel => exact ⟨0 + 1, by omega, congrArg Value.string (want_alt0' N S HPRE.out (by rw [altOne, if_pos H1.out])), by go_num, HBQ.out.trans (HB9.out.mono HBQ.out.size)⟩
                              case measure => simp [intOf]; omega
                            · have h1' : ((N 0 : Int) == 1) = false := by simp; omega
                              have H1 := Lib.hid h1
                              have kop : ¬ (pre.size + (⟨#[40]⟩ : ByteArray).size > 9223372036854775807) := by have z : (⟨#[40]⟩ : ByteArray).size = 1 := rfl; omega
                              obtain ⟨b2, off2, hAd, hb2, hc2⟩ := HST.out (Nat.pos_of_ne_zero (HG.out.full 0 hkn9))
                              have HC2 := Lib.hid hc2
                              clear h1 hc2
                              go_wp2_with fail
                              go_loopw [20, 23] (fun wt j wp => ∃ m : Nat, m ≤ N 0 ∧ wt = .string (pre ++ ⟨#[40]⟩ ++ seqTxt (refs (S 0) m)) ∧ j = .int .i64 m ∧ Hid (Below wq.heap.size wq wp)) (fun _ j _ => N 0 - (intOf j).toNat)
                              case atStart => exact ⟨0, Nat.zero_le _, congrArg Value.string (by exact ByteArray.ext (by simp [ByteArray.data_append, refs, seqTxt])), rfl, Below.refl _ _⟩
                              case round =>
                                rename World => wp
                                obtain ⟨m, hm, rfl, rfl, HBP⟩ := hrel
                                have hsm : (seqTxt (refs (S 0) m)).size ≤ 1073744896 := by have h1 := refs_size (S := S 0) (n := m) (fun i hi => HZ9.out.2 i (by omega)); have h2 : m * 1048579 ≤ 1024 * 1048579 := Nat.mul_le_mul_right _ (by have := HN9.out; omega); omega
                                by_cases hmn : m < N 0
                                · have hc2' : wp.cell? ⟨b2, off2 + m, none⟩ = some (.string (S 0 m)) := (HBP.out.cell hb2).trans (HC2.out m hmn)
                                  have hs2 : (S 0 m).size ≤ 1048576 := HZ9.out.2 m hmn
                                  obtain ⟨q1, q2, q3⟩ := par_cats hps hsm (S 0 m) hs2
                                  by_cases hm0 : m = 0
                                  · subst hm0
                                    have hc0 : wp.cell? ⟨b2, off2, none⟩ = some (.string (S 0 0)) := hc2'
                                    go_wp2_with fail
                                    refine (ref_text (S 0 0) _ (by omega)).mono ?_
                                    rintro e w9 ⟨rfl, hb9⟩
                                    have HB9 := Lib.hid hb9
                                    clear hb9
                                    go_wp2_with fail
                                    go_roundw
                                    case rel =>
                                      first
                                      | exact ⟨1, by omega, congrArg Value.string (par_first pre (S 0)), by go_num, HBP.out.trans (HB9.out.mono HBP.out.size)⟩
                                      | (repeat apply Exists.intro); refine ⟨?_, rfl⟩; exact ⟨1, by omega, congrArg Value.string (par_first pre (S 0)), by go_num, HBP.out.trans (HB9.out.mono HBP.out.size)⟩
                                    case measure => simp [intOf]; omega
                                  · have hmp : (0 : Int) < (m : Int) := by omega
                                    go_wp2_with fail
                                    refine (ref_text (S 0 m) _ (by omega)).mono ?_
                                    rintro e w9 ⟨rfl, hb9⟩
                                    have HB9 := Lib.hid hb9
                                    clear hb9
                                    go_wp2_with fail
                                    go_roundw
                                    case rel =>
                                      first
                                      | exact ⟨m + 1, by omega, congrArg Value.string (par_next pre (S 0) hm0), by go_num, HBP.out.trans (HB9.out.mono HBP.out.size)⟩
                                      | (repeat apply Exists.intro); refine ⟨?_, rfl⟩; exact ⟨m + 1, by omega, congrArg Value.string (par_next pre (S 0) hm0), by go_num, HBP.out.trans (HB9.out.mono HBP.out.size)⟩
                                    case measure => simp [intOf]; omega
                                · obtain rfl : m = N 0 := by omega
                                  have kcl := par_close hps hsm
                                  have HB9 : Hid (Below w8.heap.size w8 wp) := HBQ.out.trans (HBP.out.mono HBQ.out.size)
                                  go_wp2_with fail
                                  go_roundw
                                  case rel => exact ⟨0 + 1, by omega, congrArg Value.string ((par_whole pre _).trans (want_alt0' N S HPRE.out (by rw [altOne, if_neg H1.out]))), by go_num, HB9.out⟩
                                  case measure => simp [intOf]; omega
                          · have hpos : (0 : Int) < (k9 : Int) := by omega
                            obtain ⟨pre, hpre⟩ : ∃ pre : ByteArray, pre = altTxt (alts N S k9) ++ ⟨#[32, 124, 32]⟩ := ⟨_, rfl⟩
                            have HPRE := Lib.hid hpre
                            have hps : pre.size ≤ 1100000003 := by rw [hpre]; rw [ByteArray.size_append]; have z : (⟨#[32, 124, 32]⟩ : ByteArray).size = 3 := rfl; have := HW9.out; omega
                            have kbar : ¬ ((altTxt (alts N S k9)).size + (⟨#[32, 124, 32]⟩ : ByteArray).size > 9223372036854775807) := by have z : (⟨#[32, 124, 32]⟩ : ByteArray).size = 3 := rfl; have := HW9.out; omega
                            have hcat : altTxt (alts N S k9) ++ ⟨#[32, 124, 32]⟩ = pre := hpre.symm
                            clear hpre
                            by_cases h1 : N k9 = 1
                            · have h1' : ((N k9 : Int) == 1) = true := by simp [h1]
                              obtain ⟨b2, off2, hAd, hb2, hc2⟩ := HST.out (by omega)
                              have hc2' : wq.cell? ⟨b2, off2, none⟩ = some (.string (S k9 0)) := hc2 0 (by omega)
                              have hs2 : (S k9 0).size ≤ 1048576 := HZ9.out.2 0 (by omega)
                              have hrs := refTxt_size (S k9 0)
                              have kr : ¬ (pre.size + (refTxt (S k9 0)).size > 9223372036854775807) := by omega
                              have hpn : 0 < N k9 := by omega
                              have H1 := Lib.hid h1
                              clear hc2 h1
                              go_wp2_with fail
                              refine (ref_text (S k9 0) _ (by omega)).mono ?_
                              rintro e w9 ⟨rfl, hb9⟩
                              have HB9 := Lib.hid hb9
                              clear hb9
                              go_wp2_with fail
                              go_roundw
                              case rel => exact ⟨k9 + 1, by omega, congrArg Value.string (want_alt' h09 HPRE.out (by rw [altOne, if_pos H1.out])), by go_num, HBQ.out.trans (HB9.out.mono HBQ.out.size)⟩
                              case measure => simp [intOf]; omega
                            · have h1' : ((N k9 : Int) == 1) = false := by simp; omega
                              have H1 := Lib.hid h1
                              have kop : ¬ (pre.size + (⟨#[40]⟩ : ByteArray).size > 9223372036854775807) := by have z : (⟨#[40]⟩ : ByteArray).size = 1 := rfl; omega
                              obtain ⟨b2, off2, hAd, hb2, hc2⟩ := HST.out (Nat.pos_of_ne_zero (HG.out.full k9 hkn9))
                              have HC2 := Lib.hid hc2
                              clear h1 hc2
                              go_wp2_with fail
                              have H09 := Lib.hid h09
                              clear hpos h09
                              rename 0 < k9 => hpz
                              clear hpz
                              go_loopw [20, 23] (fun wt j wp => ∃ m : Nat, m ≤ N k9 ∧ wt = .string (pre ++ ⟨#[40]⟩ ++ seqTxt (refs (S k9) m)) ∧ j = .int .i64 m ∧ Hid (Below wq.heap.size wq wp)) (fun _ j _ => N k9 - (intOf j).toNat)
                              case atStart => exact ⟨0, Nat.zero_le _, congrArg Value.string (by exact ByteArray.ext (by simp [ByteArray.data_append, refs, seqTxt])), rfl, Below.refl _ _⟩
                              case round =>
                                rename World => wp
                                obtain ⟨m, hm, rfl, rfl, HBP⟩ := hrel
                                have hsm : (seqTxt (refs (S k9) m)).size ≤ 1073744896 := by have h1 := refs_size (S := S k9) (n := m) (fun i hi => HZ9.out.2 i (by omega)); have h2 : m * 1048579 ≤ 1024 * 1048579 := Nat.mul_le_mul_right _ (by have := HN9.out; omega); omega
                                by_cases hmn : m < N k9
                                · have hc2' : wp.cell? ⟨b2, off2 + m, none⟩ = some (.string (S k9 m)) := (HBP.out.cell hb2).trans (HC2.out m hmn)
                                  have hs2 : (S k9 m).size ≤ 1048576 := HZ9.out.2 m hmn
                                  obtain ⟨q1, q2, q3⟩ := par_cats hps hsm (S k9 m) hs2
                                  by_cases hm0 : m = 0
                                  · subst hm0
                                    have hc0 : wp.cell? ⟨b2, off2, none⟩ = some (.string (S k9 0)) := hc2'
                                    go_wp2_with fail
                                    refine (ref_text (S k9 0) _ (by omega)).mono ?_
                                    rintro e w9 ⟨rfl, hb9⟩
                                    have HB9 := Lib.hid hb9
                                    clear hb9
                                    go_wp2_with fail
                                    go_roundw
                                    case rel =>
                                      first
                                      | exact ⟨1, by omega, congrArg Value.string (par_first pre (S k9)), by go_num, HBP.out.trans (HB9.out.mono HBP.out.size)⟩
                                      | (repeat apply Exists.intro); refine ⟨?_, rfl⟩; exact ⟨1, by omega, congrArg Value.string (par_first pre (S k9)), by go_num, HBP.out.trans (HB9.out.mono HBP.out.size)⟩
                                    case measure => simp [intOf]; omega
                                  · have hmp : (0 : Int) < (m : Int) := by omega
                                    go_wp2_with fail
                                    refine (ref_text (S k9 m) _ (by omega)).mono ?_
                                    rintro e w9 ⟨rfl, hb9⟩
                                    have HB9 := Lib.hid hb9
                                    clear hb9
                                    go_wp2_with fail
                                    go_roundw
                                    case rel =>
                                      first
                                      | exact ⟨m + 1, by omega, congrArg Value.string (par_next pre (S k9) hm0), by go_num, HBP.out.trans (HB9.out.mono HBP.out.size)⟩
                                      | (repeat apply Exists.intro); refine ⟨?_, rfl⟩; exact ⟨m + 1, by omega, congrArg Value.string (par_next pre (S k9) hm0), by go_num, HBP.out.trans (HB9.out.mono HBP.out.size)⟩
                                    case measure => simp [intOf]; omega
                                · obtain rfl : m = N k9 := by omega
                                  have kcl := par_close hps hsm
                                  have HB9 : Hid (Below w8.heap.size w8 wp) := HBQ.out.trans (HBP.out.mono HBQ.out.size)
                                  go_wp2_with fail
                                  go_roundw
                                  case rel => exact ⟨k9 + 1, by omega, congrArg Value.string ((par_whole pre _).trans (want_alt' H09.out HPRE.out (by rw [altOne, if_neg H1.out]))), by go_num, HB9.out⟩
                                  case measure => simp [intOf]; omega
                        · obtain rfl : k9 = k6 := by omega
                          go_wp2_with fail
                          refine (disjstring_any wq (some ⟨wa.heap.size, 0, none⟩) (altTxt (alts N S k9)) (HP.out.mono HWQ.out HWQ.out.size) HT.out).mono ?_
                          rintro e wz ⟨rfl, hbz⟩
                          have HBZ := Lib.hid hbz
                          clear hbz
                          go_wp2_with fail
                          go_ret
                          have b1 : Below w.heap.size w wd := HBC.out.trans (HBD.out.mono HBC.out.size)
                          have b2 := b1.trans (HWQ.out.mono b1.size)
                          exact ⟨rfl, b2.trans (HBZ.out.mono b2.size)⟩
end Go.Proofs.YtfmlfaankmnfjaaGreatFmt
