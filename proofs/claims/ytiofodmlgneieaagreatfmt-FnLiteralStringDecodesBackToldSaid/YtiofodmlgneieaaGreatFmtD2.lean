/- n025_45: a rune's bytes: laid behind a buffer (zzAppendRune), and measured in a text (zzUTF8Len). The seat's flags: -reflectrows -leanrows (see REPORT.md, TRANSLATOR). -/
import Derived.Test.YtiofodmlgneieaaGreatFmtA0
import Derived.Test.YtiofodmlgneieaaGreatFmtQ1
import Derived.Test.YtiofodmlgneieaaGreatFmtBf
import Derived.Lib.QuoteBits
namespace Go.Proofs.YtiofodmlgneieaaGreatFmt
open Go.RowKit Go.Extern
theorem or_i64 (a b c : Nat) (ha : a < 4611686018427387904) (hb : b < 4611686018427387904) (hc : a ||| b = c) (hc2 : c < 9223372036854775808) : bits .or .i64 (a : Int) (b : Int) = (c : Int) := by
  show IntKind.i64.wrap ((BitVec.ofInt 64 (a : Int) ||| BitVec.ofInt 64 (b : Int)).toNat : Int) = _
  rw [BitVec.toNat_or, ofInt_u64 a (by omega), ofInt_u64 b (by omega), hc]
  exact Lib.wrap_i64_small _ hc2
theorem and_i64 (a b c : Nat) (ha : a < 4611686018427387904) (hb : b < 4611686018427387904) (hc : a &&& b = c) (hc2 : c < 9223372036854775808) : bits .and .i64 (a : Int) (b : Int) = (c : Int) := by
  show IntKind.i64.wrap ((BitVec.ofInt 64 (a : Int) &&& BitVec.ofInt 64 (b : Int)).toNat : Int) = _
  rw [BitVec.toNat_and, ofInt_u64 a (by omega), ofInt_u64 b (by omega), hc]
  exact Lib.wrap_i64_small _ hc2
/-- 'x & 63'. -/
theorem and63 (x : Nat) (hx : x < 4611686018427387904) : bits .and .i64 (x : Int) 63 = ((x % 64 : Nat) : Int) :=
  and_i64 x 63 _ hx (by omega) (Nat.and_two_pow_sub_one_eq_mod x 6) (by omega)
/-- '0x80 | x'. -/
theorem or128 (x : Nat) (hx : x < 64) : bits .or .i64 128 (x : Int) = ((128 + x : Nat) : Int) := or_i64 128 x _ (by omega) (by omega) (nat_join6 128 x (by decide) hx) (by omega)
theorem or192 (x : Nat) (hx : x < 32) : bits .or .i64 192 (x : Int) = ((192 + x : Nat) : Int) := or_i64 192 x _ (by omega) (by omega) (nat_join5 192 x (by decide) hx) (by omega)
theorem or224 (x : Nat) (hx : x < 16) : bits .or .i64 224 (x : Int) = ((224 + x : Nat) : Int) := or_i64 224 x _ (by omega) (by omega) (nat_join4 224 x (by decide) hx) (by omega)
theorem or240 (x : Nat) (hx : x < 8) : bits .or .i64 240 (x : Int) = ((240 + x : Nat) : Int) := or_i64 240 x _ (by omega) (by omega) (nat_join3 240 x (by decide) hx) (by omega)
theorem cell_byte (n : Nat) (h : n < 256) : Value.int .u8 (n : Int) = Value.int .u8 ((UInt8.ofNat n).toNat : Int) := by
  have h3 : (UInt8.ofNat n).toNat = n := by simp; omega
  rw [h3]
theorem cell_byte' (b : Nat) (bi : Int) (n : Nat) (hb : bi = (b : Int)) (h : b + n < 256) : Value.int .u8 (bi + (n : Int)) = Value.int .u8 ((UInt8.ofNat (b + n)).toNat : Int) := by
  have h3 : (UInt8.ofNat (b + n)).toNat = b + n := by simp; omega
  rw [h3, hb]
  rfl
theorem cast_div (r d : Nat) : ((r / d : Nat) : Int) = (r : Int) / (d : Int) := Int.natCast_ediv r d
set_option maxHeartbeats 2000000 in
set_option maxRecDepth 100000 in
theorem append_two (B : Nat) (w0 w : World) (v : Value) (l : List UInt8) (r : Nat) (h0 : 128 ≤ r) (h1 : r < 2048) (hB : Buf B w0 w v l) (hl : l.length ≤ 1099511627776) :
    Calls Tryz.prog 26 #[v, .int .i64 (r : Int)] w fun e w' => ∃ v', e = .returned (.tuple #[v', .bool true]) ∧ Buf B w0 w' v' (l ++ enc r) := by
  have he := FmtText.enc2 r (by omega) h1
  rw [← enc_def] at he
  obtain ⟨x, hx⟩ : ∃ x, x = r / 64 := ⟨_, rfl⟩
  obtain ⟨y, hy⟩ : ∃ y, y = r % 64 := ⟨_, rfl⟩
  have ltx : x < 32 := by omega
  have lty : y < 64 := by omega
  rw [← hx, ← hy] at he
  have q0 : (r : Int) / 64 = (x : Int) := by rw [hx]; exact (cast_div r 64).symm
  have q1 : bits .or .i64 192 (x : Int) = 192 + (x : Int) := or192 x ltx
  have q2 : bits .and .i64 (r : Int) 63 = (y : Int) := by rw [hy]; exact and63 r (by omega)
  have q3 : bits .or .i64 128 (y : Int) = 128 + (y : Int) := or128 y lty
  obtain ⟨c0, hc0⟩ : ∃ c0 : UInt8, c0 = UInt8.ofNat (192 + x) := ⟨_, rfl⟩
  obtain ⟨c1, hc1⟩ : ∃ c1 : UInt8, c1 = UInt8.ofNat (128 + y) := ⟨_, rfl⟩
  rw [← hc0, ← hc1] at he
  have HG : Hid ([Value.int .u8 (192 + (x : Int)), Value.int .u8 (128 + (y : Int))] = cellsOf [c0, c1]) := by rw [hc0, hc1, cell_byte' 192 192 x rfl (by omega), cell_byte' 128 128 y rfl (by omega)]; exact rfl
  have HE := Lib.hid he
  have HB := Lib.hid hB
  have g0 : ¬ (r : Int) < 0 := by omega
  have g1 : ¬ (1114111 : Int) < (r : Int) := by omega
  have g2 : ¬ (r : Int) < 128 := by omega
  have g3 : ¬ (55296 : Int) ≤ (r : Int) := by omega
  have g4 : (r : Int) < 2048 := by omega
  clear he hB hx hy hc0 hc1
  go_enter Tryz.func26, Tryz.ntmps26
  go_wp2_with (at_builtin; refine buf_add rfl _ _ rfl [c0, c1] _ HG.out 2 rfl rfl rfl HB.out (by omega) ?_)
  intro v1 w1 hb1
  rw [← HE.out] at hb1
  have HB1 := Lib.hid hb1
  clear hb1
  go_wp2_with fail
  go_ret2
  exact ⟨v1, rfl, HB1.out⟩
set_option maxHeartbeats 2000000 in
set_option maxRecDepth 100000 in
theorem append_lo (B : Nat) (w0 w : World) (v : Value) (l : List UInt8) (r : Nat) (h0 : 2048 ≤ r) (h1 : r < 55296) (hB : Buf B w0 w v l) (hl : l.length ≤ 1099511627776) :
    Calls Tryz.prog 26 #[v, .int .i64 (r : Int)] w fun e w' => ∃ v', e = .returned (.tuple #[v', .bool true]) ∧ Buf B w0 w' v' (l ++ enc r) := by
  have he := FmtText.enc3 r (by omega) (by omega) (by omega)
  rw [← enc_def] at he
  obtain ⟨x, hx⟩ : ∃ x, x = r / 4096 := ⟨_, rfl⟩
  obtain ⟨y, hy⟩ : ∃ y, y = r / 64 % 64 := ⟨_, rfl⟩
  obtain ⟨z, hz⟩ : ∃ z, z = r % 64 := ⟨_, rfl⟩
  have ltx : x < 16 := by omega
  have lty : y < 64 := by omega
  have ltz : z < 64 := by omega
  rw [← hx, ← hy, ← hz] at he
  have q0 : (r : Int) / 4096 = (x : Int) := by rw [hx]; exact (cast_div r 4096).symm
  have q1 : bits .or .i64 224 (x : Int) = 224 + (x : Int) := or224 x ltx
  have q2 : bits .and .i64 ((r : Int) / 64) 63 = (y : Int) := by rw [hy, show (r : Int) / 64 = ((r / 64 : Nat) : Int) from (cast_div r 64).symm]; exact and63 (r / 64) (by omega)
  have q3 : bits .or .i64 128 (y : Int) = 128 + (y : Int) := or128 y lty
  have q4 : bits .and .i64 (r : Int) 63 = (z : Int) := by rw [hz]; exact and63 r (by omega)
  have q5 : bits .or .i64 128 (z : Int) = 128 + (z : Int) := or128 z ltz
  obtain ⟨c0, hc0⟩ : ∃ c0 : UInt8, c0 = UInt8.ofNat (224 + x) := ⟨_, rfl⟩
  obtain ⟨c1, hc1⟩ : ∃ c1 : UInt8, c1 = UInt8.ofNat (128 + y) := ⟨_, rfl⟩
  obtain ⟨c2, hc2⟩ : ∃ c2 : UInt8, c2 = UInt8.ofNat (128 + z) := ⟨_, rfl⟩
  rw [← hc0, ← hc1, ← hc2] at he
  have HG : Hid ([Value.int .u8 (224 + (x : Int)), Value.int .u8 (128 + (y : Int)), Value.int .u8 (128 + (z : Int))] = cellsOf [c0, c1, c2]) := by rw [hc0, hc1, hc2, cell_byte' 224 224 x rfl (by omega), cell_byte' 128 128 y rfl (by omega), cell_byte' 128 128 z rfl (by omega)]; exact rfl
  have HE := Lib.hid he
  have HB := Lib.hid hB
  have g0 : ¬ (r : Int) < 0 := by omega
  have g1 : ¬ (1114111 : Int) < (r : Int) := by omega
  have g2 : ¬ (r : Int) < 128 := by omega
  have g3 : ¬ (55296 : Int) ≤ (r : Int) := by omega
  have g4 : ¬ (r : Int) < 2048 := by omega
  have g5 : (r : Int) < 65536 := by omega
  clear he hB hx hy hz hc0 hc1 hc2
  go_enter Tryz.func26, Tryz.ntmps26
  go_wp2_with (at_builtin; refine buf_add rfl _ _ rfl [c0, c1, c2] _ HG.out 3 rfl rfl rfl HB.out (by omega) ?_)
  intro v1 w1 hb1
  rw [← HE.out] at hb1
  have HB1 := Lib.hid hb1
  clear hb1
  go_wp2_with fail
  go_ret2
  exact ⟨v1, rfl, HB1.out⟩
set_option maxHeartbeats 2000000 in
set_option maxRecDepth 100000 in
theorem append_hi (B : Nat) (w0 w : World) (v : Value) (l : List UInt8) (r : Nat) (h0 : 57344 ≤ r) (h1 : r < 65536) (hB : Buf B w0 w v l) (hl : l.length ≤ 1099511627776) :
    Calls Tryz.prog 26 #[v, .int .i64 (r : Int)] w fun e w' => ∃ v', e = .returned (.tuple #[v', .bool true]) ∧ Buf B w0 w' v' (l ++ enc r) := by
  have he := FmtText.enc3 r (by omega) (by omega) (by omega)
  rw [← enc_def] at he
  obtain ⟨x, hx⟩ : ∃ x, x = r / 4096 := ⟨_, rfl⟩
  obtain ⟨y, hy⟩ : ∃ y, y = r / 64 % 64 := ⟨_, rfl⟩
  obtain ⟨z, hz⟩ : ∃ z, z = r % 64 := ⟨_, rfl⟩
  have ltx : x < 16 := by omega
  have lty : y < 64 := by omega
  have ltz : z < 64 := by omega
  rw [← hx, ← hy, ← hz] at he
  have q0 : (r : Int) / 4096 = (x : Int) := by rw [hx]; exact (cast_div r 4096).symm
  have q1 : bits .or .i64 224 (x : Int) = 224 + (x : Int) := or224 x ltx
  have q2 : bits .and .i64 ((r : Int) / 64) 63 = (y : Int) := by rw [hy, show (r : Int) / 64 = ((r / 64 : Nat) : Int) from (cast_div r 64).symm]; exact and63 (r / 64) (by omega)
  have q3 : bits .or .i64 128 (y : Int) = 128 + (y : Int) := or128 y lty
  have q4 : bits .and .i64 (r : Int) 63 = (z : Int) := by rw [hz]; exact and63 r (by omega)
  have q5 : bits .or .i64 128 (z : Int) = 128 + (z : Int) := or128 z ltz
  obtain ⟨c0, hc0⟩ : ∃ c0 : UInt8, c0 = UInt8.ofNat (224 + x) := ⟨_, rfl⟩
  obtain ⟨c1, hc1⟩ : ∃ c1 : UInt8, c1 = UInt8.ofNat (128 + y) := ⟨_, rfl⟩
  obtain ⟨c2, hc2⟩ : ∃ c2 : UInt8, c2 = UInt8.ofNat (128 + z) := ⟨_, rfl⟩
  rw [← hc0, ← hc1, ← hc2] at he
  have HG : Hid ([Value.int .u8 (224 + (x : Int)), Value.int .u8 (128 + (y : Int)), Value.int .u8 (128 + (z : Int))] = cellsOf [c0, c1, c2]) := by rw [hc0, hc1, hc2, cell_byte' 224 224 x rfl (by omega), cell_byte' 128 128 y rfl (by omega), cell_byte' 128 128 z rfl (by omega)]; exact rfl
  have HE := Lib.hid he
  have HB := Lib.hid hB
  have g0 : ¬ (r : Int) < 0 := by omega
  have g1 : ¬ (1114111 : Int) < (r : Int) := by omega
  have g2 : ¬ (r : Int) < 128 := by omega
  have g3 : (55296 : Int) ≤ (r : Int) := by omega
  have g4 : ¬ (r : Int) ≤ 57343 := by omega
  have g5 : ¬ (r : Int) < 2048 := by omega
  have g6 : (r : Int) < 65536 := by omega
  clear he hB hx hy hz hc0 hc1 hc2
  go_enter Tryz.func26, Tryz.ntmps26
  go_wp2_with (at_builtin; refine buf_add rfl _ _ rfl [c0, c1, c2] _ HG.out 3 rfl rfl rfl HB.out (by omega) ?_)
  intro v1 w1 hb1
  rw [← HE.out] at hb1
  have HB1 := Lib.hid hb1
  clear hb1
  go_wp2_with fail
  go_ret2
  exact ⟨v1, rfl, HB1.out⟩
set_option maxHeartbeats 2000000 in
set_option maxRecDepth 100000 in
theorem append_four (B : Nat) (w0 w : World) (v : Value) (l : List UInt8) (r : Nat) (h0 : 65536 ≤ r) (h1 : r ≤ 1114111) (hB : Buf B w0 w v l) (hl : l.length ≤ 1099511627776) :
    Calls Tryz.prog 26 #[v, .int .i64 (r : Int)] w fun e w' => ∃ v', e = .returned (.tuple #[v', .bool true]) ∧ Buf B w0 w' v' (l ++ enc r) := by
  have he := FmtText.enc4 r (by omega) h1
  rw [← enc_def] at he
  obtain ⟨x, hx⟩ : ∃ x, x = r / 262144 := ⟨_, rfl⟩
  obtain ⟨y, hy⟩ : ∃ y, y = r / 4096 % 64 := ⟨_, rfl⟩
  obtain ⟨z, hz⟩ : ∃ z, z = r / 64 % 64 := ⟨_, rfl⟩
  obtain ⟨u, hu⟩ : ∃ u, u = r % 64 := ⟨_, rfl⟩
  have ltx : x < 8 := by omega
  have lty : y < 64 := by omega
  have ltz : z < 64 := by omega
  have ltu : u < 64 := by omega
  rw [← hx, ← hy, ← hz, ← hu] at he
  have q0 : (r : Int) / 262144 = (x : Int) := by rw [hx]; exact (cast_div r 262144).symm
  have q1 : bits .or .i64 240 (x : Int) = 240 + (x : Int) := or240 x ltx
  have q2 : bits .and .i64 ((r : Int) / 4096) 63 = (y : Int) := by rw [hy, show (r : Int) / 4096 = ((r / 4096 : Nat) : Int) from (cast_div r 4096).symm]; exact and63 (r / 4096) (by omega)
  have q3 : bits .or .i64 128 (y : Int) = 128 + (y : Int) := or128 y lty
  have q4 : bits .and .i64 ((r : Int) / 64) 63 = (z : Int) := by rw [hz, show (r : Int) / 64 = ((r / 64 : Nat) : Int) from (cast_div r 64).symm]; exact and63 (r / 64) (by omega)
  have q5 : bits .or .i64 128 (z : Int) = 128 + (z : Int) := or128 z ltz
  have q6 : bits .and .i64 (r : Int) 63 = (u : Int) := by rw [hu]; exact and63 r (by omega)
  have q7 : bits .or .i64 128 (u : Int) = 128 + (u : Int) := or128 u ltu
  obtain ⟨c0, hc0⟩ : ∃ c0 : UInt8, c0 = UInt8.ofNat (240 + x) := ⟨_, rfl⟩
  obtain ⟨c1, hc1⟩ : ∃ c1 : UInt8, c1 = UInt8.ofNat (128 + y) := ⟨_, rfl⟩
  obtain ⟨c2, hc2⟩ : ∃ c2 : UInt8, c2 = UInt8.ofNat (128 + z) := ⟨_, rfl⟩
  obtain ⟨c3, hc3⟩ : ∃ c3 : UInt8, c3 = UInt8.ofNat (128 + u) := ⟨_, rfl⟩
  rw [← hc0, ← hc1, ← hc2, ← hc3] at he
  have HG : Hid ([Value.int .u8 (240 + (x : Int)), Value.int .u8 (128 + (y : Int)), Value.int .u8 (128 + (z : Int)), Value.int .u8 (128 + (u : Int))] = cellsOf [c0, c1, c2, c3]) := by rw [hc0, hc1, hc2, hc3, cell_byte' 240 240 x rfl (by omega), cell_byte' 128 128 y rfl (by omega), cell_byte' 128 128 z rfl (by omega), cell_byte' 128 128 u rfl (by omega)]; exact rfl
  have HE := Lib.hid he
  have HB := Lib.hid hB
  have g0 : ¬ (r : Int) < 0 := by omega
  have g1 : ¬ (1114111 : Int) < (r : Int) := by omega
  have g2 : ¬ (r : Int) < 128 := by omega
  have g3 : (55296 : Int) ≤ (r : Int) := by omega
  have g4 : ¬ (r : Int) ≤ 57343 := by omega
  have g5 : ¬ (r : Int) < 2048 := by omega
  have g6 : ¬ (r : Int) < 65536 := by omega
  clear he hB hx hy hz hu hc0 hc1 hc2 hc3
  go_enter Tryz.func26, Tryz.ntmps26
  go_wp2_with (at_builtin; refine buf_add rfl _ _ rfl [c0, c1, c2, c3] _ HG.out 4 rfl rfl rfl HB.out (by omega) ?_)
  intro v1 w1 hb1
  rw [← HE.out] at hb1
  have HB1 := Lib.hid hb1
  clear hb1
  go_wp2_with fail
  go_ret2
  exact ⟨v1, rfl, HB1.out⟩
theorem append_rune (B : Nat) (w0 w : World) (v : Value) (l : List UInt8) (r : Nat) (h0 : 128 ≤ r) (hv : ValidR r) (hB : Buf B w0 w v l) (hl : l.length ≤ 1099511627776) :
    Calls Tryz.prog 26 #[v, .int .i64 (r : Int)] w fun e w' => ∃ v', e = .returned (.tuple #[v', .bool true]) ∧ Buf B w0 w' v' (l ++ enc r) := by
  unfold ValidR at hv
  by_cases h1 : r < 2048
  · exact append_two B w0 w v l r h0 h1 hB hl
  by_cases h2 : r < 55296
  · exact append_lo B w0 w v l r (by omega) h2 hB hl
  by_cases h3 : r < 65536
  · exact append_hi B w0 w v l r (by omega) h3 hB hl
  · exact append_four B w0 w v l r (by omega) (by omega) hB hl
end Go.Proofs.YtiofodmlgneieaaGreatFmt
