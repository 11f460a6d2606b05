/- n025_51.FnEbnfDisjunctionOfAlternatives: the copies of the slices of strings. The seat's flags: -reflectrows -leanrows (see REPORT.md, TRANSLATOR). -/
import Derived.Test.YtfmlfaankmnfjaaGreatFmtZ4
namespace Go.Proofs.YtfmlfaankmnfjaaGreatFmt
open Go.RowKit
theorem infoStrs : (Tryz.prog.info? 38).map (fun i => (i.zero, i.size, i.bytes)) = some (some (.slice none 0 0), 1, 24) := by kernel_rfl
/-- The copies so far: the first k stand in the new row. -/
def Cps (w1 wr : World) (n k : Nat) (V : Nat → Option Addr) (VC : Nat → Nat) (N : Nat → Nat) (S : Nat → Nat → ByteArray) : Prop :=
  wr.rowIs w1.heap.size 38 n (fun i => if i < k then .slice (V i) (N i) (VC i) else .slice none 0 0) ∧ Below w1.heap.size w1 wr ∧ ∀ i, i < k → StrsIn wr (V i) (N i) (S i)
theorem cps_start (w1 : World) (n : Nat) (V : Nat → Option Addr) (VC : Nat → Nat) (N : Nat → Nat) (S : Nat → Nat → ByteArray) : Cps w1 (w1.alloc (.cells (madeCells #[.slice none 0 0] n) 38)) n 0 V VC N S :=
  ⟨(World.rowIs_made w1 _ n 38).congr (fun i _ => by simp), (Below.refl _ w1).alloc (Nat.le_refl _) _, fun i hi => absurd hi (Nat.not_lt_zero i)⟩
theorem strs_apart {w1 w : World} {n m b off : Nat} {f : Nat → Value} {s : ByteArray} (h : w.rowIs w1.heap.size 38 n f) (hf : ∀ i, ∃ a l c, f i = .slice a l c) (hc : w.cell? ⟨b, off + m, none⟩ = some (.string s)) : b ≠ w1.heap.size := fun e => by
  subst e
  by_cases hm : off + m < n
  · obtain ⟨a, l, c, hfm⟩ := hf (off + m)
    rw [h.cell hm, hfm] at hc
    cases hc
  · obtain ⟨cur, h1, h2, _⟩ := h
    simp only [World.cell?, h1] at hc
    rw [Array.getElem?_eq_none (by omega)] at hc
    cases hc
theorem cps_fun (V : Nat → Option Addr) (VC N : Nat → Nat) (k : Nat) : ∀ i, ∃ a l c, (if i < k then Value.slice (V i) (N i) (VC i) else .slice none 0 0) = .slice a l c := fun i => by
  split
  · exact ⟨_, _, _, rfl⟩
  · exact ⟨_, _, _, rfl⟩
theorem cps_step {w1 wr wc : World} {n k : Nat} {V : Nat → Option Addr} {VC N : Nat → Nat} {S : Nat → Nat → ByteArray} {vo : Option Addr} {vc : Nat} (h : Cps w1 wr n k V VC N S) (hv : StrsIn wc vo (N k) (S k)) (hb : Below wr.heap.size wr wc) :
    Cps w1 (wc.setCell ⟨w1.heap.size, k, none⟩ (.slice vo (N k) vc)) n (k + 1) (fun i => if i = k then vo else V i) (fun i => if i = k then vc else VC i) N S := by
  have hrow : wc.rowIs w1.heap.size 38 n (fun i => if i < k then .slice (V i) (N i) (VC i) else .slice none 0 0) := by
    obtain ⟨c, h1, h2, h3⟩ := h.1
    exact ⟨c, (hb.block _ (heap_lt h1)).trans h1, h2, h3⟩
  have keep : ∀ {a : Option Addr} {m : Nat} {T : Nat → ByteArray}, StrsIn wc a m T → StrsIn (wc.setCell ⟨w1.heap.size, k, none⟩ (.slice vo (N k) vc)) a m T := fun {a m T} hs h0 => by
    obtain ⟨b, off, h1, h2, h3⟩ := hs h0
    have hne : b ≠ w1.heap.size := strs_apart hrow (cps_fun V VC N k) (h3 0 h0)
    refine ⟨b, off, h1, by simpa using h2, fun i hi => ?_⟩
    rw [← h3 i hi]
    exact World.cell?_of_block (w := wc) (by simp only [World.setCell]; rw [Array.getElem?_modify, if_neg (fun e => hne e.symm)])
  refine ⟨(hrow.set k _).congr (fun i _ => ?_), (h.2.1.trans (hb.mono h.2.1.size)).setCell (Nat.le_refl _) _, fun i hi => ?_⟩
  · by_cases hi : i = k
    · subst hi; simp
    · by_cases hl : i < k
      · have : i < k + 1 := by omega
        simp [hi, hl, this]
      · have : ¬ i < k + 1 := by omega
        simp [hi, hl, this]
  · by_cases hik : i = k
    · subst hik
      simp only [if_true]
      exact keep hv
    · simp only [hik, if_false]
      exact keep ((h.2.2 i (by omega)).carry hb)
theorem cps_end {w1 wr : World} {n k : Nat} {V : Nat → Option Addr} {VC N : Nat → Nat} {S : Nat → Nat → ByteArray} (h : Cps w1 wr n k V VC N S) (hk : n ≤ k) (hN : ∀ i, i < n → N i ≠ 0 ∧ N i ≤ 1048576) : AltsIn wr (some ⟨w1.heap.size, 0, none⟩) n V N VC S := fun _ =>
  ⟨w1.heap.size, 0, rfl, by obtain ⟨c, h1, _⟩ := h.1; exact heap_lt h1, fun i hi => by
    have h3 := h.2.2 i (by omega)
    refine ⟨by rw [Nat.zero_add, h.1.cell hi, if_pos (by omega)], fun e => ?_, h3, by have := (hN i hi).2; omega⟩
    obtain ⟨b, off, h4, _⟩ := h3 (by have := (hN i hi).1; omega)
    rw [e] at h4
    cases h4⟩
end Go.Proofs.YtfmlfaankmnfjaaGreatFmt
