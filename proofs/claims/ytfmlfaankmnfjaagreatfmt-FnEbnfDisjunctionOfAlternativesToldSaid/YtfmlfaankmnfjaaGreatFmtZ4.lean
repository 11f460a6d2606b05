/- n025_51.FnEbnfDisjunctionOfAlternatives: the builders' contracts. The seat's flags: -reflectrows -leanrows (see REPORT.md, TRANSLATOR). -/
import Derived.Test.YtfmlfaankmnfjaaGreatFmtZ3
namespace Go.Proofs.YtfmlfaankmnfjaaGreatFmt
open Go.RowKit
theorem own_slice {w : World} {base size n : Nat} {e : TypeId} {v : Value} {xs : List Value} (h : w.ownsRow base e size v n xs) : ∃ vo vc, v = .slice vo n vc := by
  rcases Joins.ownsRow_forms h with ⟨rfl, rfl⟩ | ⟨g, cap, rfl⟩
  · exact ⟨_, _, rfl⟩
  · exact ⟨_, _, rfl⟩
theorem lone_cell (w : World) (u : Value) (T : TypeId) : ∀ j x, [u][j]? = some x → (w.alloc (.cells #[u] T)).cell? ((⟨w.heap.size, 0, none⟩ : Addr).add j) = some x := fun j x hj => by
  have hc := heap_alloc_new w (.cells #[u] T)
  match j, hj with
  | 0, hj =>
    simp at hj
    subst hj
    have e : (⟨w.heap.size, 0, none⟩ : Addr).add 0 = ⟨w.heap.size, 0, none⟩ := by unfold Addr.add; split <;> simp_all
    rw [e]
    show (w.alloc (.cells #[u] T)).cell? ⟨w.heap.size, 0, none⟩ = some u
    unfold World.cell?
    simp only [hc]
    rfl
theorem disjnew (w : World) : Calls Tryz.prog 8 #[] w fun e w' => e = .returned (.pointer (some ⟨w.heap.size, 0, none⟩)) ∧ w' = w.alloc (.cells #[.slice none 0 0] 56) := by
  go_enter Tryz.func8, Tryz.ntmps8
  go_wp2
  go_ret
  exact ⟨rfl, rfl⟩
theorem disj_start (w : World) (N : Nat → Nat) (S : Nat → Nat → ByteArray) : DisjH w (w.alloc (.cells #[.slice none 0 0] 56)) w.heap.size 0 [] N S :=
  ⟨_, heap_alloc_new w _, World.ownsRow_nil _ _ _ _, fun i h => absurd h (Nat.not_lt_zero i), (Below.refl _ w).alloc (Nat.le_refl _) _⟩
theorem DisjH.carry {w0 w w' : World} {D k : Nat} {xs : List Value} {N : Nat → Nat} {S : Nat → Nat → ByteArray} (h : DisjH w0 w D k xs N S) (hb : Below w.heap.size w w') : DisjH w0 w' D k xs N S := by
  obtain ⟨v, h1, h2, h3, h4⟩ := h
  exact ⟨v, (hb.block D (heap_lt h1)).trans h1, h2.kept (row := none) ⟨hb.os, hb.tape, hb.output, hb.size, fun j hj _ => hb.block j hj⟩ (by cases hv : v.ownBlock <;> simp), fun i hi => (h3 i hi).keep (keeps_below hb), h4.trans (hb.mono (Nat.le_of_lt (heap_lt h1)))⟩
theorem row_apart {w wa w' : World} {D k : Nat} {v : Value} {xs : List Value} {o : Obj} (hD : w.heap[D]? = some o) (hown : w.ownsRow (D + 1) 61 1 v k xs) (ha : Below w.heap.size w wa) (hg : wa.grownBy w' v.ownBlock) : w'.heap[D]? = some o := by
  have hDa : wa.heap[D]? = some o := (ha.block D (heap_lt hD)).trans hD
  rw [hg.block D (heap_lt hDa) (fun e => by have := (hown.lt D e.symm).1; omega)]
  exact hDa
set_option maxHeartbeats 1000000 in
set_option maxRecDepth 100000 in
theorem addRef (w0 w : World) (D k : Nat) (q : Option Addr) (xs : List Value) (N : Nat → Nat) (S : Nat → Nat → ByteArray) (h : DisjH w0 w D k xs N S) (hu : NodeH w (.iface 44 (.pointer q)) (N k) (S k)) (hk : k ≤ 1048576) :
    Calls Tryz.prog 9 #[.pointer (some ⟨D, 0, none⟩), .pointer q] w fun e w' => e = .returned (.tuple #[]) ∧ ∃ xs', DisjH w0 w' D (k + 1) xs' N S := by
  obtain ⟨i0, hi, hz0, hz1, hz2⟩ := info_parts info_node
  obtain ⟨v, hD, hown, hN, hb⟩ := h
  obtain ⟨vo, vc, rfl⟩ := own_slice hown
  have c0 := cell_of_one hD
  have f0 := free_of_one hD
  have hlt : D < w.heap.size := heap_lt hD
  have HD := Lib.hid hD
  have HO := Lib.hid hown
  have HN := Lib.hid hN
  have HB := Lib.hid hb
  have HU := Lib.hid hu
  have b1 : Hid (k + 1 ≤ maxLen) := by show k + 1 ≤ maxLen; unfold maxLen; omega
  have b2 : Hid ((k + 1) * 16 ≤ 140737488355328) := by show (k + 1) * 16 ≤ _; omega
  have HA : Hid (Below w.heap.size w (w.alloc (.cells #[.iface 44 (.pointer q)] 61))) := (Below.refl _ w).alloc (Nat.le_refl _) _
  have HSZ : Hid (D + 1 ≤ (w.alloc (.cells #[.iface 44 (.pointer q)] 61)).heap.size) := by show D + 1 ≤ (w.alloc _).heap.size; simp; omega
  clear hD hown hN hb hu
  go_enter Tryz.func9, Tryz.ntmps9
  go_wp2_with (at_builtin; refine wpList_append_own _ rfl _ _ 54 rfl (D + 1) 61 i0 .nilIface 1 16 Tryz.underlying54 hi hz0 hz1 hz2 rfl (by decide) (.slice vo k vc) k xs rfl (HO.out.alloc _) ⟨w.heap.size, 0, none⟩ 1 1 [.iface 44 (.pointer q)] rfl rfl (lone_cell w _ _) (fun u hu => by simp at hu; subst hu; rfl) b1.out b2.out HSZ.out ?_)
  intro v' w' hown' hgrow _
  obtain ⟨vo', vc', hv'⟩ := own_slice hown'
  rw [hv'] at hown' ⊢
  have hDw : w'.heap[D]? = some (.cells #[.slice vo k vc] 56 (0, 0)) := row_apart HD.out HO.out HA.out hgrow
  have c9 := cell_of_one hDw
  have f9 := free_of_one hDw
  have HO' := Lib.hid hown'
  have HG := Lib.hid hgrow
  clear hown' hgrow hDw hv'
  go_wp2
  go_end0
  exact ⟨rfl, _, disj_end HD.out HO.out HN.out HB.out HA.out HO'.out HG.out HU.out⟩
set_option maxHeartbeats 1000000 in
set_option maxRecDepth 100000 in
theorem addSeq (w0 w : World) (D k : Nat) (q : Option Addr) (xs : List Value) (N : Nat → Nat) (S : Nat → Nat → ByteArray) (h : DisjH w0 w D k xs N S) (hu : NodeH w (.iface 46 (.pointer q)) (N k) (S k)) (hk : k ≤ 1048576) :
    Calls Tryz.prog 13 #[.pointer (some ⟨D, 0, none⟩), .pointer q] w fun e w' => e = .returned (.tuple #[]) ∧ ∃ xs', DisjH w0 w' D (k + 1) xs' N S := by
  obtain ⟨i0, hi, hz0, hz1, hz2⟩ := info_parts info_node
  obtain ⟨v, hD, hown, hN, hb⟩ := h
  obtain ⟨vo, vc, rfl⟩ := own_slice hown
  have c0 := cell_of_one hD
  have f0 := free_of_one hD
  have hlt : D < w.heap.size := heap_lt hD
  have HD := Lib.hid hD
  have HO := Lib.hid hown
  have HN := Lib.hid hN
  have HB := Lib.hid hb
  have HU := Lib.hid hu
  have b1 : Hid (k + 1 ≤ maxLen) := by show k + 1 ≤ maxLen; unfold maxLen; omega
  have b2 : Hid ((k + 1) * 16 ≤ 140737488355328) := by show (k + 1) * 16 ≤ _; omega
  have HA : Hid (Below w.heap.size w (w.alloc (.cells #[.iface 46 (.pointer q)] 61))) := (Below.refl _ w).alloc (Nat.le_refl _) _
  have HSZ : Hid (D + 1 ≤ (w.alloc (.cells #[.iface 46 (.pointer q)] 61)).heap.size) := by show D + 1 ≤ (w.alloc _).heap.size; simp; omega
  clear hD hown hN hb hu
  go_enter Tryz.func13, Tryz.ntmps13
  go_wp2_with (at_builtin; refine wpList_append_own _ rfl _ _ 54 rfl (D + 1) 61 i0 .nilIface 1 16 Tryz.underlying54 hi hz0 hz1 hz2 rfl (by decide) (.slice vo k vc) k xs rfl (HO.out.alloc _) ⟨w.heap.size, 0, none⟩ 1 1 [.iface 46 (.pointer q)] rfl rfl (lone_cell w _ _) (fun u hu => by simp at hu; subst hu; rfl) b1.out b2.out HSZ.out ?_)
  intro v' w' hown' hgrow _
  obtain ⟨vo', vc', hv'⟩ := own_slice hown'
  rw [hv'] at hown' ⊢
  have hDw : w'.heap[D]? = some (.cells #[.slice vo k vc] 56 (0, 0)) := row_apart HD.out HO.out HA.out hgrow
  have c9 := cell_of_one hDw
  have f9 := free_of_one hDw
  have HO' := Lib.hid hown'
  have HG := Lib.hid hgrow
  clear hown' hgrow hDw hv'
  go_wp2
  go_end0
  exact ⟨rfl, _, disj_end HD.out HO.out HN.out HB.out HA.out HO'.out HG.out HU.out⟩
end Go.Proofs.YtfmlfaankmnfjaaGreatFmt
