/- n025_51.FnEbnfDisjunctionOfAlternatives: the walk. The seat's flags: -reflectrows -leanrows (see REPORT.md, TRANSLATOR). -/
import Derived.Test.YtfmlfaankmnfjaaGreatFmtZ5
namespace Go.Proofs.YtfmlfaankmnfjaaGreatFmt
open Go.RowKit
theorem ebnfdisj_any (w : World) (q : Option Addr) (txt : ByteArray) (hP : Pr w.heap.size w true (.iface 41 (.pointer q)) txt) (hsz : txt.size ≤ 1000000000000) :
    Calls Tryz.prog 14 #[.pointer q] w fun e w' => e = .returned (.string txt) ∧ Below w.heap.size w w' := by
  have HP := Lib.hid hP
  have HS := Lib.hid hsz
  clear hP hsz
  go_enter Tryz.func14, Tryz.ntmps14
  go_wp2_with fail
  refine (ebnf_disjunction q txt _ HP.out HS.out).mono ?_
  rintro e w2 ⟨rfl, hb⟩
  have HB := Lib.hid hb
  clear hb
  go_wp2_with fail
  go_ret
  exact ⟨rfl, HB.out⟩
theorem str_disj (w : World) (q : Option Addr) (txt : ByteArray) (hP : Pr w.heap.size w true (.iface 41 (.pointer q)) txt) (hsz : txt.size ≤ 1000000000000) :
    Calls Tryz.prog 22 #[.pointer q] w fun e w' => e = .returned (.string txt) ∧ Below w.heap.size w w' := by
  have HP := Lib.hid hP
  have HS := Lib.hid hsz
  clear hP hsz
  go_enter Tryz.func22, Tryz.ntmps22
  go_wp2_with fail
  refine (ebnf_disjunction q txt _ HP.out HS.out).mono ?_
  rintro e w2 ⟨rfl, hb⟩
  have HB := Lib.hid hb
  clear hb
  go_wp2_with fail
  go_ret
  exact ⟨rfl, HB.out⟩
theorem disjstring_any (w : World) (q : Option Addr) (txt : ByteArray) (hP : Pr w.heap.size w true (.iface 41 (.pointer q)) txt) (hsz : txt.size ≤ 1000000000000) :
    Calls Tryz.prog 16 #[.pointer q] w fun e w' => e = .returned (.string txt) ∧ Below w.heap.size w w' := by
  have HP := Lib.hid hP
  have HS := Lib.hid hsz
  clear hP hsz
  go_enter Tryz.func16, Tryz.ntmps16
  go_wp2_with fail
  refine (str_disj _ q txt HP.out HS.out).mono ?_
  rintro e w2 ⟨rfl, hb⟩
  have HB := Lib.hid hb
  clear hb
  go_wp2_with fail
  go_ret
  exact ⟨rfl, HB.out⟩
/-- All that the tests ahead of the building have found. -/
def Good (n : Nat) (N : Nat → Nat) (S : Nat → Nat → ByteArray) : Prop := n ≤ 1024 ∧ 0 < n ∧ Sized2 N S n ∧ cnt N n ≤ 1024 ∧ (∀ i, i < n → N i ≠ 0) ∧ ∀ i, i < n → AllAscii (S i) (N i)
theorem Good.n1 {n : Nat} {N : Nat → Nat} {S : Nat → Nat → ByteArray} (h : Good n N S) : n ≤ 1024 := h.1
theorem Good.n0 {n : Nat} {N : Nat → Nat} {S : Nat → Nat → ByteArray} (h : Good n N S) : 0 < n := h.2.1
theorem Good.sized {n : Nat} {N : Nat → Nat} {S : Nat → Nat → ByteArray} (h : Good n N S) : Sized2 N S n := h.2.2.1
theorem Good.count {n : Nat} {N : Nat → Nat} {S : Nat → Nat → ByteArray} (h : Good n N S) : cnt N n ≤ 1024 := h.2.2.2.1
theorem Good.full {n : Nat} {N : Nat → Nat} {S : Nat → Nat → ByteArray} (h : Good n N S) : ∀ i, i < n → N i ≠ 0 := h.2.2.2.2.1
theorem Good.ascii {n : Nat} {N : Nat → Nat} {S : Nat → Nat → ByteArray} (h : Good n N S) : ∀ i, i < n → AllAscii (S i) (N i) := h.2.2.2.2.2
theorem Good.txt {n : Nat} {N : Nat → Nat} {S : Nat → Nat → ByteArray} (h : Good n N S) : (altTxt (alts N S n)).size ≤ 1000000000000 := by
  have h1 := altTxt_size h.sized n (Nat.le_refl n)
  have h2 : cnt N n * 1048579 ≤ 1024 * 1048579 := Nat.mul_le_mul_right _ h.count
  have h3 := h.n1
  omega
theorem Good.few {n : Nat} {N : Nat → Nat} {S : Nat → Nat → ByteArray} (h : Good n N S) {i : Nat} (hi : i < n) : N i ≤ 1024 := Nat.le_trans (le_cnt N i n hi) h.count
/-- What is wanted, alternative by alternative. -/
theorem Good.wanted {n : Nat} {N : Nat → Nat} {S : Nat → Nat → ByteArray} (h : Good n N S) {k : Nat} (hk : k ≤ n) : (altTxt (alts N S k)).size ≤ 1100000000 := by
  have h1 := altTxt_size h.sized k hk
  have h4 : cnt N k ≤ cnt N n := by
    clear h1
    obtain ⟨d, rfl⟩ : ∃ d, n = k + d := ⟨n - k, by omega⟩
    clear hk h
    induction d with
    | zero => exact Nat.le_refl _
    | succ d ih => exact Nat.le_trans ih (Nat.le_add_right _ _)
  have h2 : cnt N k * 1048579 ≤ 1024 * 1048579 := Nat.mul_le_mul_right _ (Nat.le_trans h4 h.count)
  have h3 := h.n1
  omega
theorem want_alt {N : Nat → Nat} {S : Nat → Nat → ByteArray} {k : Nat} (h : k ≠ 0) : altTxt (alts N S k) ++ ⟨#[32, 124, 32]⟩ ++ altOne N S k = altTxt (alts N S (k + 1)) := by
  have h3 : alts N S (k + 1) = alts N S k ++ [altOne N S k] := by simp [alts, List.range_succ]
  rw [h3, altTxt_snoc _ _ (by intro h5; have := alts_len N S k; rw [h5] at this; exact h this.symm)]
theorem want_alt0 (N : Nat → Nat) (S : Nat → Nat → ByteArray) : (⟨#[]⟩ : ByteArray) ++ altOne N S 0 = altTxt (alts N S 1) := by
  rw [empty_app]
  rfl
end Go.Proofs.YtfmlfaankmnfjaaGreatFmt
