/- n025_45: zzUTF8Len measures a rune's bytes. The seat's flags: -reflectrows -leanrows (see REPORT.md, TRANSLATOR). -/
import Derived.Test.YtiofodmlgneieaaGreatFmtD1
import Derived.Test.YtiofodmlgneieaaGreatFmtD2
namespace Go.Proofs.YtiofodmlgneieaaGreatFmt
open Go.RowKit Go.Extern
theorem and192 (y : Nat) (h : y < 64) : bits .and .u8 ((128 + y : Nat) : Int) 192 = 128 := by
  have e := u8_and_nat (128 + y) 192 (by omega) (by omega)
  have e2 : ∀ z : Fin 64, (128 + z.val) &&& 192 = 128 := by decide
  rw [e2 ⟨y, h⟩] at e
  exact e
theorem and63u (y : Nat) (h : y < 64) : bits .and .u8 ((128 + y : Nat) : Int) 63 = (y : Int) := by
  have e := u8_and_nat (128 + y) 63 (by omega) (by omega)
  rw [Nat.and_two_pow_sub_one_eq_mod (128 + y) 6, (by omega : (128 + y) % 2 ^ 6 = y)] at e
  exact e
theorem and31u (x : Nat) (h : x < 32) : bits .and .u8 ((192 + x : Nat) : Int) 31 = (x : Int) := by
  have e := u8_and_nat (192 + x) 31 (by omega) (by omega)
  rw [Nat.and_two_pow_sub_one_eq_mod (192 + x) 5, (by omega : (192 + x) % 2 ^ 5 = x)] at e
  exact e
theorem and15u (x : Nat) (h : x < 16) : bits .and .u8 ((224 + x : Nat) : Int) 15 = (x : Int) := by
  have e := u8_and_nat (224 + x) 15 (by omega) (by omega)
  rw [Nat.and_two_pow_sub_one_eq_mod (224 + x) 4, (by omega : (224 + x) % 2 ^ 4 = x)] at e
  exact e
theorem and7u (x : Nat) (h : x < 8) : bits .and .u8 ((240 + x : Nat) : Int) 7 = (x : Int) := by
  have e := u8_and_nat (240 + x) 7 (by omega) (by omega)
  rw [Nat.and_two_pow_sub_one_eq_mod (240 + x) 3, (by omega : (240 + x) % 2 ^ 3 = x)] at e
  exact e
theorem or_low (x y : Nat) (hx : x ≤ 1114111) (hy : y < 64) : bits .or .i64 ((x : Int) * 64) (y : Int) = ((x * 64 + y : Nat) : Int) := by
  have e := or_i64 (x * 64) y (x * 64 + y) (by omega) (by omega) (nat_join6 (x * 64) y (by omega) hy) (by omega)
  rw [← e, Int.natCast_mul]
  rfl
theorem sev_step (r n k : Nat) (h : k < n) : r / 64 ^ (n - k) * 64 + r / 64 ^ (n - 1 - k) % 64 = r / 64 ^ (n - (k + 1)) := by
  obtain ⟨t, rfl⟩ : ∃ t, n = k + 1 + t := ⟨n - (k + 1), by omega⟩
  have e1 : k + 1 + t - k = t + 1 := by omega
  have e2 : k + 1 + t - 1 - k = t := by omega
  have e3 : k + 1 + t - (k + 1) = t := by omega
  rw [e1, e2, e3, Nat.pow_succ, ← Nat.div_div_eq_div_mul]
  omega
/-- The bytes behind the first. -/
def Tail (q : ByteArray) (i n r : Nat) : Prop := ∀ k (hk : i + k < q.size), 1 ≤ k → k < n → (q[i + k]'hk).toNat = 128 + r / 64 ^ (n - 1 - k) % 64
set_option maxHeartbeats 4000000 in
set_option maxRecDepth 100000 in
theorem utf8len_2 (q : ByteArray) (i r x0 : Nat) (w : World) (hx : x0 = r / 64 ^ 1) (h0 : 194 ≤ 192 + x0) (h1 : 192 + x0 ≤ 223) (hr : 128 ≤ r) (hr2 : r ≤ 1114111) (hv : ValidR r) (hi : i + 2 ≤ q.size) (hq : q.size ≤ 1099511627776)
    (hc : ∀ h : i < q.size, (q[i]'h).toNat = 192 + x0) (ht : Tail q i 2 r) :
    Calls Tryz.prog 24 #[.string q, .int .i64 (i : Int)] w fun e w' => e = .returned (.int .i64 2) ∧ w = w' := by
  have hiq : i < q.size := by omega
  obtain ⟨c, hcc⟩ : ∃ c, c = 192 + x0 := ⟨_, rfl⟩
  have hb : ((q[i]'hiq).toNat : Int) = (c : Int) := by rw [hc hiq, hcc]
  have g1 : (194 : Int) ≤ (c : Int) := by omega
  have g2 : (c : Int) ≤ 223 := by omega
  have a1 : bits .and .u8 (c : Int) 31 = (x0 : Int) := by rw [hcc]; exact and31u x0 (by omega)
  have HT := Lib.hid ht
  have HX := Lib.hid hx
  have HV := Lib.hid hv
  have hxr : x0 ≤ r := by rw [hx]; exact Nat.div_le_self _ _
  clear hc ht hcc hx h0 h1 hv
  go_enter Tryz.func24, Tryz.ntmps24
  go_wp2_with fail
  go_loop [7, 9] (fun v j => ∃ (k x : Nat), 1 ≤ k ∧ k ≤ 2 ∧ j = .int .i64 (k : Int) ∧ v = .int .i64 (x : Int) ∧ x ≤ r ∧ Hid (x = r / 64 ^ (2 - k))) (fun _ j => 2 - (intOf j).toNat)
  case atStart => exact ⟨1, x0, Nat.le_refl 1, by omega, rfl, rfl, hxr, HX.out⟩
  case round =>
    obtain ⟨k, x, hk1, hk, rfl, rfl, hxk, HXK⟩ := hrel
    by_cases hkn : k < 2
    · have hqk : i + k < q.size := by omega
      obtain ⟨y, hy⟩ : ∃ y, y = r / 64 ^ (2 - 1 - k) % 64 := ⟨_, rfl⟩
      have hy64 : y < 64 := by rw [hy]; exact Nat.mod_lt _ (by decide)
      obtain ⟨d, hd⟩ : ∃ d, d = 128 + y := ⟨_, rfl⟩
      have hbd : ((q[i + k]'hqk).toNat : Int) = (d : Int) := by rw [HT.out k hqk hk1 hkn, hd, hy]
      have m1 : bits .and .u8 (d : Int) 192 = 128 := by rw [hd]; exact and192 y hy64
      have m2 : bits .and .u8 (d : Int) 63 = (y : Int) := by rw [hd]; exact and63u y hy64
      have m3 := or_low x y (by omega) hy64
      have HS : Hid (x * 64 + y = r / 64 ^ (2 - (k + 1))) := by have h1 := sev_step r 2 k hkn; rw [← HXK.out, ← hy] at h1; exact h1
      have hle : x * 64 + y ≤ r := by have h1 := HS.out; rw [h1]; exact Nat.div_le_self _ _
      clear hy hd
      go_wp2_with fail
      go_round
      case rel => exact ⟨k + 1, x * 64 + y, by omega, by omega, by go_num, by go_num, hle, HS.out⟩
      case measure => simp [intOf]; omega
    · obtain rfl : k = 2 := by omega
      have hxe : x = r := by have h1 := HXK.out; simpa using h1
      subst hxe
      have hv2 : x < 55296 ∨ 57344 ≤ x := by have h := HV.out; unfold ValidR at h; omega
      have t1 : ¬ (x : Int) < 128 := by omega
      have t2 : ¬ (1114111 : Int) < (x : Int) := by omega
      rcases hv2 with t3 | t3
      · have t4 : ¬ (55296 : Int) ≤ (x : Int) := by omega
        go_wp2_with fail
        go_ret
        exact ⟨rfl, rfl⟩
      · have t4 : (55296 : Int) ≤ (x : Int) := by omega
        have t5 : ¬ (x : Int) ≤ 57343 := by omega
        go_wp2_with fail
        go_ret
        exact ⟨rfl, rfl⟩
set_option maxHeartbeats 4000000 in
set_option maxRecDepth 100000 in
theorem utf8len_3 (q : ByteArray) (i r x0 : Nat) (w : World) (hx : x0 = r / 64 ^ 2) (_h0 : 224 ≤ 224 + x0) (h1 : 224 + x0 ≤ 239) (hr : 2048 ≤ r) (hr2 : r ≤ 1114111) (hv : ValidR r) (hi : i + 3 ≤ q.size) (hq : q.size ≤ 1099511627776)
    (hc : ∀ h : i < q.size, (q[i]'h).toNat = 224 + x0) (ht : Tail q i 3 r) :
    Calls Tryz.prog 24 #[.string q, .int .i64 (i : Int)] w fun e w' => e = .returned (.int .i64 3) ∧ w = w' := by
  have hiq : i < q.size := by omega
  obtain ⟨c, hcc⟩ : ∃ c, c = 224 + x0 := ⟨_, rfl⟩
  have hb : ((q[i]'hiq).toNat : Int) = (c : Int) := by rw [hc hiq, hcc]
  have g1 : (224 : Int) ≤ (c : Int) := by omega
  have g2 : (c : Int) ≤ 239 := by omega
  have a1 : bits .and .u8 (c : Int) 15 = (x0 : Int) := by rw [hcc]; exact and15u x0 (by omega)
  have HT := Lib.hid ht
  have HX := Lib.hid hx
  have HV := Lib.hid hv
  have hxr : x0 ≤ r := by rw [hx]; exact Nat.div_le_self _ _
  clear hc ht hcc hx _h0 h1 hv
  go_enter Tryz.func24, Tryz.ntmps24
  go_wp2_with fail
  go_loop [7, 9] (fun v j => ∃ (k x : Nat), 1 ≤ k ∧ k ≤ 3 ∧ j = .int .i64 (k : Int) ∧ v = .int .i64 (x : Int) ∧ x ≤ r ∧ Hid (x = r / 64 ^ (3 - k))) (fun _ j => 3 - (intOf j).toNat)
  case atStart => exact ⟨1, x0, Nat.le_refl 1, by omega, rfl, rfl, hxr, HX.out⟩
  case round =>
    obtain ⟨k, x, hk1, hk, rfl, rfl, hxk, HXK⟩ := hrel
    by_cases hkn : k < 3
    · have hqk : i + k < q.size := by omega
      obtain ⟨y, hy⟩ : ∃ y, y = r / 64 ^ (3 - 1 - k) % 64 := ⟨_, rfl⟩
      have hy64 : y < 64 := by rw [hy]; exact Nat.mod_lt _ (by decide)
      obtain ⟨d, hd⟩ : ∃ d, d = 128 + y := ⟨_, rfl⟩
      have hbd : ((q[i + k]'hqk).toNat : Int) = (d : Int) := by rw [HT.out k hqk hk1 hkn, hd, hy]
      have m1 : bits .and .u8 (d : Int) 192 = 128 := by rw [hd]; exact and192 y hy64
      have m2 : bits .and .u8 (d : Int) 63 = (y : Int) := by rw [hd]; exact and63u y hy64
      have m3 := or_low x y (by omega) hy64
      have HS : Hid (x * 64 + y = r / 64 ^ (3 - (k + 1))) := by have h1 := sev_step r 3 k hkn; rw [← HXK.out, ← hy] at h1; exact h1
      have hle : x * 64 + y ≤ r := by have h1 := HS.out; rw [h1]; exact Nat.div_le_self _ _
      clear hy hd
      go_wp2_with fail
      go_round
      case rel => exact ⟨k + 1, x * 64 + y, by omega, by omega, by go_num, by go_num, hle, HS.out⟩
      case measure => simp [intOf]; omega
    · obtain rfl : k = 3 := by omega
      have hxe : x = r := by have h1 := HXK.out; simpa using h1
      subst hxe
      have hv2 : x < 55296 ∨ 57344 ≤ x := by have h := HV.out; unfold ValidR at h; omega
      have t1 : ¬ (x : Int) < 2048 := by omega
      have t2 : ¬ (1114111 : Int) < (x : Int) := by omega
      rcases hv2 with t3 | t3
      · have t4 : ¬ (55296 : Int) ≤ (x : Int) := by omega
        go_wp2_with fail
        go_ret
        exact ⟨rfl, rfl⟩
      · have t4 : (55296 : Int) ≤ (x : Int) := by omega
        have t5 : ¬ (x : Int) ≤ 57343 := by omega
        go_wp2_with fail
        go_ret
        exact ⟨rfl, rfl⟩
set_option maxHeartbeats 4000000 in
set_option maxRecDepth 100000 in
theorem utf8len_4 (q : ByteArray) (i r x0 : Nat) (w : World) (hx : x0 = r / 64 ^ 3) (_h0 : 240 ≤ 240 + x0) (h1 : 240 + x0 ≤ 244) (hr : 65536 ≤ r) (hr2 : r ≤ 1114111) (hv : ValidR r) (hi : i + 4 ≤ q.size) (hq : q.size ≤ 1099511627776)
    (hc : ∀ h : i < q.size, (q[i]'h).toNat = 240 + x0) (ht : Tail q i 4 r) :
    Calls Tryz.prog 24 #[.string q, .int .i64 (i : Int)] w fun e w' => e = .returned (.int .i64 4) ∧ w = w' := by
  have hiq : i < q.size := by omega
  obtain ⟨c, hcc⟩ : ∃ c, c = 240 + x0 := ⟨_, rfl⟩
  have hb : ((q[i]'hiq).toNat : Int) = (c : Int) := by rw [hc hiq, hcc]
  have g1 : (240 : Int) ≤ (c : Int) := by omega
  have g2 : (c : Int) ≤ 244 := by omega
  have a1 : bits .and .u8 (c : Int) 7 = (x0 : Int) := by rw [hcc]; exact and7u x0 (by omega)
  have HT := Lib.hid ht
  have HX := Lib.hid hx
  have HV := Lib.hid hv
  have hxr : x0 ≤ r := by rw [hx]; exact Nat.div_le_self _ _
  clear hc ht hcc hx _h0 h1 hv
  go_enter Tryz.func24, Tryz.ntmps24
  go_wp2_with fail
  go_loop [7, 9] (fun v j => ∃ (k x : Nat), 1 ≤ k ∧ k ≤ 4 ∧ j = .int .i64 (k : Int) ∧ v = .int .i64 (x : Int) ∧ x ≤ r ∧ Hid (x = r / 64 ^ (4 - k))) (fun _ j => 4 - (intOf j).toNat)
  case atStart => exact ⟨1, x0, Nat.le_refl 1, by omega, rfl, rfl, hxr, HX.out⟩
  case round =>
    obtain ⟨k, x, hk1, hk, rfl, rfl, hxk, HXK⟩ := hrel
    by_cases hkn : k < 4
    · have hqk : i + k < q.size := by omega
      obtain ⟨y, hy⟩ : ∃ y, y = r / 64 ^ (4 - 1 - k) % 64 := ⟨_, rfl⟩
      have hy64 : y < 64 := by rw [hy]; exact Nat.mod_lt _ (by decide)
      obtain ⟨d, hd⟩ : ∃ d, d = 128 + y := ⟨_, rfl⟩
      have hbd : ((q[i + k]'hqk).toNat : Int) = (d : Int) := by rw [HT.out k hqk hk1 hkn, hd, hy]
      have m1 : bits .and .u8 (d : Int) 192 = 128 := by rw [hd]; exact and192 y hy64
      have m2 : bits .and .u8 (d : Int) 63 = (y : Int) := by rw [hd]; exact and63u y hy64
      have m3 := or_low x y (by omega) hy64
      have HS : Hid (x * 64 + y = r / 64 ^ (4 - (k + 1))) := by have h1 := sev_step r 4 k hkn; rw [← HXK.out, ← hy] at h1; exact h1
      have hle : x * 64 + y ≤ r := by have h1 := HS.out; rw [h1]; exact Nat.div_le_self _ _
      clear hy hd
      go_wp2_with fail
      go_round
      case rel => exact ⟨k + 1, x * 64 + y, by omega, by omega, by go_num, by go_num, hle, HS.out⟩
      case measure => simp [intOf]; omega
    · obtain rfl : k = 4 := by omega
      have hxe : x = r := by have h1 := HXK.out; simpa using h1
      subst hxe
      have hv2 : x < 55296 ∨ 57344 ≤ x := by have h := HV.out; unfold ValidR at h; omega
      have t1 : ¬ (x : Int) < 65536 := by omega
      have t2 : ¬ (1114111 : Int) < (x : Int) := by omega
      rcases hv2 with t3 | t3
      · have t4 : ¬ (55296 : Int) ≤ (x : Int) := by omega
        go_wp2_with fail
        go_ret
        exact ⟨rfl, rfl⟩
      · have t4 : (55296 : Int) ≤ (x : Int) := by omega
        have t5 : ¬ (x : Int) ≤ 57343 := by omega
        go_wp2_with fail
        go_ret
        exact ⟨rfl, rfl⟩
theorem enc_len (r : Nat) (h : 128 ≤ r) (hv : ValidR r) : (enc r).length = if r < 2048 then 2 else if r < 65536 then 3 else 4 := by
  unfold ValidR at hv
  rw [enc_def]
  by_cases h1 : r < 2048
  · rw [FmtText.enc2 r (by omega) h1, if_pos h1]; rfl
  by_cases h2 : r < 65536
  · rw [FmtText.enc3 r h1 h2 (by omega), if_neg h1, if_pos h2]; rfl
  · rw [FmtText.enc4 r h2 (by omega), if_neg h1, if_neg h2]; rfl
theorem of_nat (n : Nat) (h : n < 256) : (UInt8.ofNat n).toNat = n := by simp; omega
/-- zzUTF8Len at a rune's bytes gives their number; the first byte is 128 or more. -/
theorem utf8len (q : ByteArray) (i r : Nat) (t : List UInt8) (w : World) (h : 128 ≤ r) (hv : ValidR r) (hR : Rest q i (enc r ++ t)) (hq : q.size ≤ 1099511627776) :
    (∀ hi : i < q.size, (128 : Int) ≤ ((q[i]'hi).toNat : Int)) ∧
    Calls Tryz.prog 24 #[.string q, .int .i64 (i : Int)] w fun e w' => e = .returned (.int .i64 (((enc r).length : Nat) : Int)) ∧ w = w' := by
  have hv' := hv
  unfold ValidR at hv'
  have hs := hR.size
  rw [List.length_append] at hs
  have hl := enc_len r h hv
  by_cases h1 : r < 2048
  · have he : enc r = [UInt8.ofNat (192 + r / 64), UInt8.ofNat (128 + r % 64)] := by rw [enc_def]; exact FmtText.enc2 r (by omega) h1
    rw [if_pos h1] at hl
    rw [hl]
    have hc : ∀ hi : i < q.size, (q[i]'hi).toNat = 192 + r / 64 := fun hi => by
      have := hR.get 0 (by omega) hi
      simp only [he, List.getElem_cons_zero] at this
      exact (congrArg UInt8.toNat this).trans (of_nat _ (by omega))
    refine ⟨fun hi => by rw [hc hi]; omega, utf8len_2 q i r (r / 64) w (by simp) (by omega) (by omega) h (by omega) hv (by omega) hq hc ?_⟩
    intro k hk k1 k2
    obtain rfl : k = 1 := by omega
    have := hR.get 1 (by omega) hk
    simp only [he, List.getElem_cons_succ, List.getElem_cons_zero] at this
    rw [congrArg UInt8.toNat this, of_nat _ (by omega)]
    try simp
  by_cases h2 : r < 65536
  · have he : enc r = [UInt8.ofNat (224 + r / 4096), UInt8.ofNat (128 + r / 64 % 64), UInt8.ofNat (128 + r % 64)] := by rw [enc_def]; exact FmtText.enc3 r h1 h2 (by omega)
    rw [if_neg h1, if_pos h2] at hl
    rw [hl]
    have hc : ∀ hi : i < q.size, (q[i]'hi).toNat = 224 + r / 4096 := fun hi => by
      have := hR.get 0 (by omega) hi
      simp only [he, List.getElem_cons_zero] at this
      exact (congrArg UInt8.toNat this).trans (of_nat _ (by omega))
    refine ⟨fun hi => by rw [hc hi]; omega, utf8len_3 q i r (r / 4096) w (by simp) (by omega) (by omega) (by omega) (by omega) hv (by omega) hq hc ?_⟩
    intro k hk k1 k2
    obtain rfl | rfl : k = 1 ∨ k = 2 := by omega
    · have := hR.get 1 (by omega) hk
      simp only [he, List.getElem_cons_succ, List.getElem_cons_zero] at this
      rw [congrArg UInt8.toNat this, of_nat _ (by omega)]
      try simp
    · have := hR.get 2 (by omega) hk
      simp only [he, List.getElem_cons_succ, List.getElem_cons_zero] at this
      rw [congrArg UInt8.toNat this, of_nat _ (by omega)]
      try simp
  · have he : enc r = [UInt8.ofNat (240 + r / 262144), UInt8.ofNat (128 + r / 4096 % 64), UInt8.ofNat (128 + r / 64 % 64), UInt8.ofNat (128 + r % 64)] := by rw [enc_def]; exact FmtText.enc4 r h2 (by omega)
    rw [if_neg h1, if_neg h2] at hl
    rw [hl]
    have hc : ∀ hi : i < q.size, (q[i]'hi).toNat = 240 + r / 262144 := fun hi => by
      have := hR.get 0 (by omega) hi
      simp only [he, List.getElem_cons_zero] at this
      exact (congrArg UInt8.toNat this).trans (of_nat _ (by omega))
    refine ⟨fun hi => by rw [hc hi]; omega, utf8len_4 q i r (r / 262144) w (by simp) (by omega) (by omega) (by omega) (by omega) hv (by omega) hq hc ?_⟩
    intro k hk k1 k2
    obtain rfl | rfl | rfl : k = 1 ∨ k = 2 ∨ k = 3 := by omega
    · have := hR.get 1 (by omega) hk
      simp only [he, List.getElem_cons_succ, List.getElem_cons_zero] at this
      rw [congrArg UInt8.toNat this, of_nat _ (by omega)]
      try simp
    · have := hR.get 2 (by omega) hk
      simp only [he, List.getElem_cons_succ, List.getElem_cons_zero] at this
      rw [congrArg UInt8.toNat this, of_nat _ (by omega)]
      try simp
    · have := hR.get 3 (by omega) hk
      simp only [he, List.getElem_cons_succ, List.getElem_cons_zero] at this
      rw [congrArg UInt8.toNat this, of_nat _ (by omega)]
      try simp
end Go.Proofs.YtiofodmlgneieaaGreatFmt
