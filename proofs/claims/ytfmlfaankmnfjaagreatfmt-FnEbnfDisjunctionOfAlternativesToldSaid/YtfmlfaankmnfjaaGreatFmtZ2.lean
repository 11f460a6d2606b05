/- n025_51.FnEbnfDisjunctionOfAlternatives: the disjunction as it is built: what lies in memory, and that it prints its alternatives. The seat's flags: -reflectrows -leanrows (see REPORT.md, TRANSLATOR). -/
import Derived.Test.YtfmlfaankmnfjaaGreatFmtZ1
import Derived.Deep.RegionLaw
import Derived.Lib.SmallJoins
import Derived.Laws.OwnMore
namespace Go.Proofs.YtfmlfaankmnfjaaGreatFmt
open Go.RowKit
/-- Every reference and every link of a sequence that was there is there, unchanged. -/
def Keeps (W W' : World) : Prop := ∀ (k : Nat) (cs : Array Value) (T : TypeId), (T = 59 ∨ T = 63) → W.heap[k]? = some (.cells cs T (0, 0)) → W'.heap[k]? = some (.cells cs T (0, 0))
theorem Keeps.trans {a b c : World} (h : Keeps a b) (h2 : Keeps b c) : Keeps a c := fun k cs T hT hk => h2 k cs T hT (h k cs T hT hk)
theorem heap_lt {w : World} {k : Nat} {o : Obj} (h : w.heap[k]? = some o) : k < w.heap.size := (Array.getElem?_eq_some_iff.1 h).1
theorem keeps_below {w w' : World} (h : Below w.heap.size w w') : Keeps w w' := fun k _ _ _ hk => (h.block k (heap_lt hk)).trans hk
theorem keeps_grown {w w' : World} {row : Option Nat} {T0 : TypeId} (hg : w.grownBy w' row) (hrow : ∀ g, row = some g → ∃ cs fz, w.heap[g]? = some (.cells cs T0 fz)) (h1 : T0 ≠ 59) (h2 : T0 ≠ 63) : Keeps w w' := fun k cs T hT hk => by
  rw [hg.block k (heap_lt hk) (fun e => by
    obtain ⟨cs', fz, hh⟩ := hrow k e.symm
    rw [hk] at hh
    simp only [Option.some.injEq, Obj.cells.injEq] at hh
    rcases hT with rfl | rfl
    · exact h1 hh.2.1.symm
    · exact h2 hh.2.1.symm)]
  exact hk
theorem keeps_set {w : World} {D : Nat} {v u : Value} {T0 : TypeId} (hD : w.heap[D]? = some (.cells #[v] T0 (0, 0))) (h1 : T0 ≠ 59) (h2 : T0 ≠ 63) : Keeps w (w.setCell ⟨D, 0, none⟩ u) := fun k cs T hT hk => by
  have hne : k ≠ D := fun e => by
    subst e
    rw [hk] at hD
    simp only [Option.some.injEq, Obj.cells.injEq] at hD
    rcases hT with rfl | rfl
    · exact h1 hD.2.1.symm
    · exact h2 hD.2.1.symm
  simp only [World.setCell]
  rw [Array.getElem?_modify, if_neg (fun e => hne e.symm)]
  exact hk
/-- A chain of references as it lies in memory. -/
def ChainH (W : World) : List ByteArray → Option Addr → Prop
  | [], q => q = none
  | id :: ids, q => ∃ (b : Nat) (h : Bool) (r : Nat) (nx : Option Addr), q = some ⟨b, 0, none⟩ ∧ W.heap[b]? = some (.cells #[.bool h, .iface 44 (.pointer (some ⟨r, 0, none⟩)), .pointer nx] 63 (0, 0)) ∧ RefAt W r 0 id ∧ (∀ a, nx = some a → a.block < b) ∧ ChainH W ids nx
theorem ChainH.keep {W W' : World} (hk : Keeps W W') : ∀ {ids : List ByteArray} {q : Option Addr}, ChainH W ids q → ChainH W' ids q
  | [], _, h => h
  | _ :: _, _, ⟨b, h, r, nx, h1, h2, h3, h4, h5⟩ => ⟨b, h, r, nx, h1, hk _ _ _ (.inr rfl) h2, hk _ _ _ (.inl rfl) h3, h4, ChainH.keep hk h5⟩
theorem ChainH.head_lt {W : World} {ids : List ByteArray} {q : Option Addr} (h : ChainH W ids q) : ∀ a, q = some a → a.block < W.heap.size := by
  cases ids with
  | nil => intro a ha; rw [show q = none from h] at ha; cases ha
  | cons t ts =>
    obtain ⟨b, _, _, _, rfl, hb, _⟩ := h
    intro a ha
    cases ha
    exact heap_lt hb
theorem ChainH.seq {W : World} : ∀ {ids : List ByteArray} {q : Option Addr}, ChainH W ids q → (∀ id ∈ ids, id.size ≤ 4194304 ∧ AsciiS id) → SeqOf W.heap.size W (ids.map refTxt) q
  | [], _, h, _ => h
  | id :: _, _, ⟨b, h, r, nx, h1, h2, h3, h4, h5⟩, hA =>
    ⟨b, h, _, nx, h1, heap_lt h2, h2, pr_ref _ _ false r 0 id h3 (heap_lt h3) (hA id (by simp)).1 (hA id (by simp)).2, h4, h5.seq (fun x hx => hA x (by simp [hx]))⟩
def idl (S : Nat → ByteArray) (n : Nat) : List ByteArray := (List.range n).map S
theorem idl_len (S : Nat → ByteArray) (n : Nat) : (idl S n).length = n := by simp [idl]
theorem idl_drop (S : Nat → ByteArray) (k n : Nat) (h : k < n) : (idl S n).drop k = S k :: (idl S n).drop (k + 1) := by
  rw [List.drop_eq_getElem_cons (by rw [idl_len]; exact h)]
  simp [idl]
theorem idl_refs (S : Nat → ByteArray) (n : Nat) : (idl S n).map refTxt = refs S n := by simp [idl, refs]
def BuildH (w1 wr : World) (n k : Nat) (S : Nat → ByteArray) (q : Option Addr) : Prop := ChainH wr ((idl S n).drop k) q ∧ Below w1.heap.size w1 wr
theorem buildh_start (w1 : World) (n : Nat) (S : Nat → ByteArray) : BuildH w1 w1 n n S none :=
  ⟨by rw [List.drop_of_length_le (by rw [idl_len]; exact Nat.le_refl _)]; rfl, Below.refl _ _⟩
theorem buildh_step {w1 wr : World} {n k : Nat} {S : Nat → ByteArray} {q : Option Addr} {hd : Bool} (h : BuildH w1 wr n (k + 1) S q) (hk : k < n) :
    BuildH w1 (linked wr (S k) hd q) n k S (some ⟨wr.heap.size + 1, 0, none⟩) := by
  have hb : Below wr.heap.size wr (linked wr (S k) hd q) := ((Below.refl _ wr).alloc (Nat.le_refl _) _).alloc (by simp) _
  have hs1 : ∀ o, (wr.alloc o).heap.size = wr.heap.size + 1 := fun o => by simp
  refine ⟨?_, h.2.trans (hb.mono h.2.size)⟩
  rw [idl_drop S k n hk]
  refine ⟨wr.heap.size + 1, hd, wr.heap.size, q, rfl, ?_, ?_, fun a hq => ?_, h.1.keep (keeps_below hb)⟩
  · have := heap_alloc_new (wr.alloc (.cells #[.int .i64 0, .string (S k)] 59)) (.cells #[.bool hd, .iface 44 (.pointer (some ⟨wr.heap.size, 0, none⟩)), .pointer q] 63)
    rw [hs1] at this
    exact this
  · unfold RefAt linked
    rw [heap_alloc_old _ _ (by simp)]
    exact heap_alloc_new _ _
  · have := h.1.head_lt a hq
    omega
/-- One alternative as it lies in memory. -/
def NodeH (W : World) (v : Value) (n : Nat) (S : Nat → ByteArray) : Prop :=
  (n = 1 → ∃ r, v = .iface 44 (.pointer (some ⟨r, 0, none⟩)) ∧ RefAt W r 0 (S 0)) ∧ (n ≠ 1 → ∃ q, v = .iface 46 (.pointer q) ∧ ChainH W (idl S n) q)
theorem NodeH.keep {W W' : World} {v : Value} {n : Nat} {S : Nat → ByteArray} (h : NodeH W v n S) (hk : Keeps W W') : NodeH W' v n S :=
  ⟨fun e => by obtain ⟨r, h1, h2⟩ := h.1 e; exact ⟨r, h1, hk _ _ _ (.inl rfl) h2⟩, fun e => by obtain ⟨q, h1, h2⟩ := h.2 e; exact ⟨q, h1, h2.keep hk⟩⟩
theorem NodeH.pr {W : World} {v : Value} {N : Nat → Nat} {S : Nat → Nat → ByteArray} {i : Nat} (h : NodeH W v (N i) (S i)) (h0 : N i ≠ 0) (hZ : SizedTo (S i) (N i)) (hA : AllAscii (S i) (N i)) : Pr W.heap.size W false v (altOne N S i) := by
  unfold altOne
  by_cases h1 : N i = 1
  · rw [if_pos h1]
    obtain ⟨r, rfl, hr⟩ := h.1 h1
    exact pr_ref _ _ false r 0 (S i 0) hr (heap_lt hr) (by have := hZ 0 (by omega); omega) (hA 0 (by omega))
  · rw [if_neg h1]
    obtain ⟨q, rfl, hq⟩ := h.2 h1
    have hs := hq.seq (fun id hid => by
      obtain ⟨j, hj, rfl⟩ := List.mem_map.1 hid
      have hj' := List.mem_range.1 hj
      exact ⟨by have := hZ j hj'; omega, hA j hj'⟩)
    rw [idl_refs] at hs
    have e0 := refs_drop (S i) 0 (N i) (by omega)
    have e1 := refs_drop (S i) 1 (N i) (by omega)
    rw [List.drop_zero] at e0
    rw [e1] at e0
    rw [e0] at hs ⊢
    exact pr_seq_par _ _ _ _ _ q hs
/-- The disjunction as it is built. -/
def DisjH (w0 w : World) (D k : Nat) (xs : List Value) (N : Nat → Nat) (S : Nat → Nat → ByteArray) : Prop :=
  ∃ v, w.heap[D]? = some (.cells #[v] 56 (0, 0)) ∧ w.ownsRow (D + 1) 61 1 v k xs ∧ (∀ i (h : i < xs.length), NodeH w (xs[i]'h) (N i) (S i)) ∧ Below D w0 w
theorem DisjH.at {w0 w : World} {D n : Nat} {xs : List Value} {N : Nat → Nat} {S : Nat → Nat → ByteArray} (h : DisjH w0 w D n xs N S) (hn : 0 < n) (h0 : ∀ i, i < n → N i ≠ 0) (hZ : Sized2 N S n) (hA : ∀ i, i < n → AllAscii (S i) (N i)) : DisjAt w.heap.size w (alts N S n) (some ⟨D, 0, none⟩) := by
  obtain ⟨v, hD, hown, hN, _⟩ := h
  obtain ⟨g, cap, rfl⟩ := Joins.ownsRow_form hown hn
  have hlen : xs.length = n := by simpa using hown.1
  have hg := (hown.lt g rfl).2
  refine ⟨D, g, cap, fun i => xs.getD i .nilIface, rfl, heap_lt hD, hg, ?_, fun i hi => ?_⟩
  · rw [alts_len]
    exact cell_of_one hD
  · rw [alts_len] at hi
    have hi' : i < xs.length := by omega
    have hc := hown.cellAt i (by omega)
    rw [List.getElem?_eq_getElem hi'] at hc
    have e : xs.getD i .nilIface = xs[i]'hi' := by simp [hi']
    show w.cell? ⟨g, i, none⟩ = some (xs.getD i .nilIface) ∧ Pr w.heap.size w false (xs.getD i .nilIface) ((alts N S n).getD i ⟨#[]⟩)
    rw [e, alts_get N S n i hi]
    exact ⟨hc, (hN i hi').pr (h0 i hi) (hZ i hi).2 (hA i hi)⟩
end Go.Proofs.YtfmlfaankmnfjaaGreatFmt
