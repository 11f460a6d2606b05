/- n025_51.FnEbnfDisjunctionOfAlternatives: a slice of slices of strings that came in; the bounds; the copies. The seat's flags: -reflectrows -leanrows (see REPORT.md, TRANSLATOR). -/
import Derived.Test.YtfmlfaankmnfjaaGreatFmtEi
import Derived.Test.YtfmlfaankmnfjaaGreatFmtDj
namespace Go.Proofs.YtfmlfaankmnfjaaGreatFmt
open Go.RowKit
def AllAscii (S : Nat → ByteArray) (k : Nat) : Prop := ∀ i, i < k → AsciiS (S i)
theorem allascii_step {S : Nat → ByteArray} {k : Nat} (h : AllAscii S k) (hk : AsciiS (S k)) : AllAscii S (k + 1) := fun i hi => by
  by_cases e : i = k
  · subst e; exact hk
  · exact h i (by omega)
/-- n slices of strings lie at ao: the i-th at A i, of length N i, reading S i. -/
def AltsIn (w : World) (ao : Option Addr) (n : Nat) (A : Nat → Option Addr) (N C : Nat → Nat) (S : Nat → Nat → ByteArray) : Prop :=
  0 < n → ∃ b off, ao = some ⟨b, off, none⟩ ∧ b < w.heap.size ∧ ∀ i, i < n → w.cell? ⟨b, off + i, none⟩ = some (.slice (A i) (N i) (C i)) ∧ (A i = none → N i = 0 ∧ C i = 0) ∧ StrsIn w (A i) (N i) (S i) ∧ N i ≤ 9223372036854775807
theorem AltsIn.carry {w w' : World} {ao : Option Addr} {n : Nat} {A : Nat → Option Addr} {N C : Nat → Nat} {S : Nat → Nat → ByteArray} (h : AltsIn w ao n A N C S) (hb : Below w.heap.size w w') : AltsIn w' ao n A N C S := fun h0 => by
  obtain ⟨b, off, h1, h2, h3⟩ := h h0
  exact ⟨b, off, h1, Nat.lt_of_lt_of_le h2 hb.size, fun i hi => ⟨(hb.cell h2).trans (h3 i hi).1, (h3 i hi).2.1, (h3 i hi).2.2.1.carry hb, (h3 i hi).2.2.2⟩⟩
def Sized2 (N : Nat → Nat) (S : Nat → Nat → ByteArray) (k : Nat) : Prop := ∀ i, i < k → N i ≤ 1048576 ∧ SizedTo (S i) (N i)
theorem sized2_step {N : Nat → Nat} {S : Nat → Nat → ByteArray} {k : Nat} (h : Sized2 N S k) (h1 : N k ≤ 1048576) (h2 : SizedTo (S k) (N k)) : Sized2 N S (k + 1) := fun i hi => by
  by_cases e : i = k
  · subst e; exact ⟨h1, h2⟩
  · exact h i (by omega)
set_option maxHeartbeats 2000000 in
set_option maxRecDepth 100000 in
theorem zz2_any (w : World) (ao : Option Addr) (n cap : Nat) (A : Nat → Option Addr) (N C : Nat → Nat) (S : Nat → Nat → ByteArray) (hS : AltsIn w ao n A N C S) (hn : n ≤ 9223372036854775807) :
    Calls Tryz.prog 5 #[.slice ao n cap] w fun e w' => (e = .returned (.bool false) ∨ (e = .returned (.bool true) ∧ n ≤ 1048576 ∧ Sized2 N S n)) ∧ w = w' := by
  have HS := Lib.hid hS
  clear hS
  by_cases h1 : 1048576 < (n : Int)
  · go_enter Tryz.func5, Tryz.ntmps5
    go_wp2
    go_ret
    exact ⟨Or.inl rfl, rfl⟩
  go_enter Tryz.func5, Tryz.ntmps5
  go_wp2
  go_loop [3, 4] (fun m i => ∃ (k : Nat) (q : Int), k ≤ n ∧ i = .int .i64 k ∧ m = .int .i64 q ∧ Hid (Sized2 N S k)) (fun _ i => n - (intOf i).toNat)
  case atStart => exact ⟨0, _, Nat.zero_le _, rfl, rfl, fun i hi => absurd hi (Nat.not_lt_zero i)⟩
  case round =>
    obtain ⟨k, q, hk, rfl, rfl, HZ⟩ := hrel
    by_cases hkn : k < n
    · obtain ⟨b, off, rfl, hb, hc⟩ := HS.out (by omega)
      obtain ⟨hc', _, hst, hmx⟩ := hc k hkn
      have HST := Lib.hid hst
      clear hc hst
      go_wp2
      · go_ret
        exact ⟨Or.inl rfl, rfl⟩
      · go_ret
        exact ⟨Or.inl rfl, rfl⟩
      · have HNK : Hid (N k ≤ 1048576) := (by omega : N k ≤ 1048576)
        go_loop [3, 5] (fun m j => ∃ (k2 : Nat) (q2 : Int), k2 ≤ N k ∧ j = .int .i64 k2 ∧ m = .int .i64 q2 ∧ Hid (SizedTo (S k) k2)) (fun _ j => N k - (intOf j).toNat)
        case atStart => exact ⟨0, _, Nat.zero_le _, rfl, rfl, sized_zero (S k)⟩
        case round =>
          obtain ⟨k2, q2, hk2, rfl, rfl, HZ2⟩ := hrel
          by_cases hkn2 : k2 < N k
          · obtain ⟨b2, off2, hA, hb2, hc2⟩ := HST.out (by omega)
            have hc2' := hc2 k2 hkn2
            clear hc2
            go_wp2
            · go_ret
              exact ⟨Or.inl rfl, rfl⟩
            · go_ret
              exact ⟨Or.inl rfl, rfl⟩
            · have hsz : ¬ (1048576 : Int) < ((S k k2).size : Int) := by omega
              go_round
              case rel => exact ⟨k2 + 1, _, by omega, by go_num, rfl, sized_step HZ2.out hsz⟩
              case measure => simp [intOf]; omega
          · have HZN := Lib.hid (sized2_step HZ.out HNK.out (fun i hi => HZ2.out i (by omega)))
            go_wp2
            go_round
            case rel => exact ⟨k + 1, _, by omega, by go_num, rfl, HZN.out⟩
            case measure => simp [intOf]; omega
    · go_wp2
      go_ret
      exact ⟨Or.inr ⟨rfl, by omega, fun i hi => HZ.out i (by omega)⟩, rfl⟩
/-- How many strings the first k slices hold. -/
def cnt (N : Nat → Nat) : Nat → Nat
  | 0 => 0
  | k + 1 => cnt N k + N k
theorem cnt_le {N : Nat → Nat} {S : Nat → Nat → ByteArray} {n : Nat} (h : Sized2 N S n) : ∀ k, k ≤ n → cnt N k ≤ k * 1048576
  | 0, _ => Nat.le_refl 0
  | k + 1, hk => by
    have h1 := cnt_le h k (by omega)
    have h2 := (h k (by omega)).1
    show cnt N k + N k ≤ (k + 1) * 1048576
    omega
theorem le_cnt (N : Nat → Nat) (i : Nat) : ∀ k, i < k → N i ≤ cnt N k
  | 0, h => absurd h (Nat.not_lt_zero i)
  | k + 1, h => by
    show N i ≤ cnt N k + N k
    by_cases e : i = k
    · subst e; omega
    · have := le_cnt N i k (by omega)
      omega
/-- The text of one alternative: bare where it is one reference, else in parentheses. -/
def altOne (N : Nat → Nat) (S : Nat → Nat → ByteArray) (i : Nat) : ByteArray := if N i = 1 then refTxt (S i 0) else parTxt (refs (S i) (N i))
def alts (N : Nat → Nat) (S : Nat → Nat → ByteArray) (n : Nat) : List ByteArray := (List.range n).map (altOne N S)
theorem alts_len (N : Nat → Nat) (S : Nat → Nat → ByteArray) (n : Nat) : (alts N S n).length = n := by simp [alts]
theorem alts_get (N : Nat → Nat) (S : Nat → Nat → ByteArray) (n i : Nat) (h : i < n) : (alts N S n).getD i ⟨#[]⟩ = altOne N S i := by simp [alts, h]
theorem alts_take (N : Nat → Nat) (S : Nat → Nat → ByteArray) (n k : Nat) (h : k ≤ n) : (alts N S n).take k = alts N S k := by
  simp only [alts, ← List.map_take, List.take_range, Nat.min_eq_left h]
theorem par_size (ts : List ByteArray) : (parTxt ts).size = (seqTxt ts).size + 2 := by
  have h1 : (⟨#[40]⟩ : ByteArray).size = 1 := rfl
  have h2 : (⟨#[41]⟩ : ByteArray).size = 1 := rfl
  rw [parTxt, ByteArray.size_append, ByteArray.size_append]
  omega
theorem altOne_size {N : Nat → Nat} {S : Nat → Nat → ByteArray} {n i : Nat} (h : Sized2 N S n) (hi : i < n) : (altOne N S i).size ≤ N i * 1048579 + 2 := by
  have h1 := (h i hi).2
  unfold altOne
  split
  · rename_i e
    have h2 := h1 0 (by omega)
    have h3 := refTxt_size (S i 0)
    omega
  · rw [par_size]
    have := refs_size h1
    omega
theorem altTxt_size {N : Nat → Nat} {S : Nat → Nat → ByteArray} {n : Nat} (h : Sized2 N S n) : ∀ k, k ≤ n → (altTxt (alts N S k)).size ≤ cnt N k * 1048579 + k * 5
  | 0, _ => Nat.zero_le _
  | k + 1, hk => by
    have h1 := altTxt_size h k (by omega)
    have h2 := altOne_size h (i := k) (by omega)
    have h3 : alts N S (k + 1) = alts N S k ++ [altOne N S k] := by simp [alts, List.range_succ]
    have h4 : cnt N (k + 1) = cnt N k + N k := rfl
    have z : (⟨#[32, 124, 32]⟩ : ByteArray).size = 3 := rfl
    rw [h3, h4]
    by_cases e : k = 0
    · subst e
      have e0 : altTxt (alts N S 0 ++ [altOne N S 0]) = altOne N S 0 := rfl
      have e1 : N 0 * 1048579 ≤ (cnt N 0 + N 0) * 1048579 := Nat.mul_le_mul_right _ (Nat.le_add_left _ _)
      rw [e0]
      exact Nat.le_trans h2 (Nat.add_le_add e1 (by decide))
    · rw [altTxt_snoc _ _ (by intro h5; have := alts_len N S k; rw [h5] at this; exact e this.symm), ByteArray.size_append, ByteArray.size_append, z]
      omega
end Go.Proofs.YtfmlfaankmnfjaaGreatFmt
