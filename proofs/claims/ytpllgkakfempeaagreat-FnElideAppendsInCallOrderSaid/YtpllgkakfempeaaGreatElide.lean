/- Two Elide options leave the list a followed by b: n025_44.FnElideAppendsInCallOrder returns true for every input and leaves both lists as they were. Conditions: none on the input; the dump is cut with -reflectrows -leanrows. -/
import Derived.Test.YtpllgkakfempeaaGreatElB
import Derived.OpenShut
import Derived.ShutString
import Derived.ChangeOld
import Derived.Deep.Strs
import Derived.Carry
namespace Go.Proofs.YtpllgkakfempeaaGreat
open Go.RowKit
theorem StrsIn.carry {w w' : World} {ao : Option Addr} {n : Nat} {S : Nat → ByteArray} (h : StrsIn w ao n S) (hb : Below w.heap.size w w') : StrsIn w' ao n S := fun h0 => by
  obtain ⟨b, off, h1, h2, h3⟩ := h h0
  exact ⟨b, off, h1, Nat.lt_of_lt_of_le h2 hb.size, fun i hi => (hb.cell h2).trans (h3 i hi)⟩
theorem StrsV.carry {w w' : World} {v : Value} {n : Nat} {S : Nat → ByteArray} (h : StrsV w v n S) (hb : Below w.heap.size w w') : StrsV w' v n S := by
  rcases h with h | ⟨a, c, h1, h2⟩
  · exact Or.inl h
  · exact Or.inr ⟨a, c, h1, fun i hi => cell_later hb (h2 i hi)⟩
theorem cloned_out {w w' : World} {n : Nat} {S : Nat → ByteArray} {e : Ending} (h : Cloned w n S e w') :
    ∃ vo vc, e = .returned (.slice vo n vc) ∧ Hid (StrsIn w' vo n S ∧ StrsV w' (.slice vo n vc) n S ∧ Below w.heap.size w w') := by
  obtain ⟨v, rfl, ⟨rfl, rfl⟩ | ⟨rfl, hr⟩, hb⟩ := h
  · exact ⟨none, 0, rfl, fun h0 => absurd h0 (Nat.lt_irrefl 0), Or.inl ⟨rfl, rfl⟩, hb⟩
  · refine ⟨_, _, rfl, fun _ => ⟨_, 0, rfl, hr.lt, fun i hi => ?_⟩, Or.inr ⟨_, _, rfl, fun i hi => ?_⟩, hb⟩
    · rw [Nat.zero_add]; exact hr.cell hi
    · have ha : (⟨w.heap.size, 0, none⟩ : Addr).add i = ⟨w.heap.size, i, none⟩ := by unfold Addr.add; split <;> simp_all
      rw [ha]; exact hr.cell hi
theorem got_in {w : World} {p na nb : Nat} {v : Value} {A B : Nat → ByteArray} (h : w.ownsRow (p + 1) 9 1 v (na + nb) (news na A ++ news nb B)) :
    ∃ vo vc, v = .slice vo (na + nb) vc ∧ (0 < na + nb → ∃ g, vo = some ⟨g, 0, none⟩ ∧ g < w.heap.size ∧ (∀ i, i < na → w.cell? ⟨g, i, none⟩ = some (.string (A i))) ∧ (∀ i, i < nb → w.cell? ⟨g, na + i, none⟩ = some (.string (B i)))) := by
  obtain ⟨vo, vc, hv⟩ := own_slice h
  refine ⟨vo, vc, hv, fun h0 => ?_⟩
  obtain ⟨g, cap, hv2⟩ := Joins.ownsRow_form h h0
  rw [hv2] at hv h
  simp only [Value.slice.injEq, true_and] at hv
  have hg := (h.lt g rfl).2
  refine ⟨g, hv.1.symm, hg, fun i hi => ?_, fun i hi => ?_⟩
  · rw [h.cellAt i (by omega), List.getElem?_append_left (by simp [news]; exact hi)]
    simp [news, hi]
  · rw [h.cellAt (na + i) (by omega), List.getElem?_append_right (by simp [news])]
    simp [news, hi]
theorem all_below {w w1 w2 w3 w4 w5 : World} (h1 : Below w.heap.size w w1) (h2 : Below w1.heap.size w1 w2) (h3 : Below w2.heap.size w2 w3) (h4 : Below w2.heap.size w3 w4) (h5 : Below w2.heap.size w4 w5) : Below w.heap.size w w5 := by
  have := h1.size
  have := h2.size
  exact ((((h1.trans (h2.mono (by omega))).trans (h3.mono (by omega))).trans (h4.mono (by omega))).trans (h5.mono (by omega)))
set_option maxHeartbeats 2000000 in
set_option maxRecDepth 100000 in
theorem walk (w : World) (ao bo : Option Addr) (na ca nb cb : Nat) (A B : Nat → ByteArray) (hA0 : ao = none → na = 0 ∧ ca = 0) (hB0 : bo = none → nb = 0 ∧ cb = 0) (hA : StrsIn w ao na A) (hB : StrsIn w bo nb B)
    (hna : na ≤ 9223372036854775807) (hnb : nb ≤ 9223372036854775807) :
    Calls Tryz.prog 3 #[.slice ao na ca, .slice bo nb cb] w fun e w' => e = .returned (.bool true) ∧ Below w.heap.size w w' := by
  have HA := Lib.hid hA
  have HB := Lib.hid hB
  have HA0 := Lib.hid hA0
  have HB0 := Lib.hid hB0
  clear hA hB hA0 hB0
  go_enter Tryz.func3, Tryz.ntmps3
  go_wp2_with fail
  refine (zz_any w ao bo na ca nb cb A B HA.out HB.out hna hnb).mono ?_
  rintro e _ ⟨hz, rfl⟩
  rcases hz with rfl | ⟨rfl, h1, h2⟩
  · go_wp2_with fail
    go_ret
    exact ⟨rfl, Below.refl _ _⟩
  go_wp2_with fail
  refine (bytes_any w ao na ca A HA.out hna).mono ?_
  rintro e _ ⟨⟨m1, rfl⟩, rfl⟩
  go_wp2_with fail
  refine (bytes_any w bo nb cb B HB.out hnb).mono ?_
  rintro e _ ⟨⟨m2, rfl⟩, rfl⟩
  go_wp2_with fail
  · go_ret
    exact ⟨rfl, Below.refl _ _⟩
  refine (clone_any w (.slice ao na ca) na A ⟨ao, ca, rfl, HA0.out, HA.out⟩ h1).mono ?_
  intro e w1 hc
  obtain ⟨vo, vc, rfl, HC1⟩ := cloned_out hc
  clear hc
  go_wp2_with fail
  refine (clone_any w1 (.slice bo nb cb) nb B ⟨bo, cb, rfl, HB0.out, HB.out.carry HC1.out.2.2⟩ h2).mono ?_
  intro e w2 hc
  obtain ⟨uo, uc, rfl, HC2⟩ := cloned_out hc
  clear hc
  go_wp2_with fail
  refine (new_any w2).mono ?_
  rintro e w3 ⟨rfl, hp, hb3⟩
  have HP := Lib.hid hp
  have HB3 := Lib.hid hb3
  clear hp hb3
  have HA2 : Hid (StrsIn w2 vo na A ∧ StrsV w2 (.slice vo na vc) na A) := ⟨HC1.out.1.carry HC2.out.2.2, HC1.out.2.1.carry HC2.out.2.2⟩
  go_wp2_with fail
  refine (apply_any w3 w2.heap.size (.slice none 0 0) (.slice vo na vc) 0 [] na A HP.out (World.ownsRow_nil _ _ _ _) (HA2.out.2.carry HB3.out) (by omega)).mono ?_
  rintro e w4 ⟨rfl, v', hp4, ho4, hb4⟩
  simp only [Nat.zero_add, List.nil_append] at ho4
  have HP4 := Lib.hid hp4
  have HO4 := Lib.hid ho4
  have HB4 := Lib.hid hb4
  clear hp4 ho4 hb4
  go_wp2_with fail
  refine (apply_any w4 w2.heap.size v' (.slice uo nb uc) na (news na A) nb B HP4.out HO4.out (HC2.out.2.1.carry (HB3.out.trans HB4.out)) (by omega)).mono ?_
  rintro e w5 ⟨rfl, v2, hp5, ho5, hb5⟩
  obtain ⟨go, gc, rfl, hg⟩ := got_in ho5
  have HP5 := Lib.hid hp5
  have HB5 := Lib.hid hb5
  have HG := Lib.hid hg
  clear hp5 ho5 hb5 hg
  go_wp2_with fail
  refine (optOf w5 w2.heap.size _ HP5.out).mono ?_
  rintro e _ ⟨rfl, rfl⟩
  have HI1 : Hid (StrsIn w5 vo na A) := HA2.out.1.carry ((HB3.out.trans HB4.out).trans HB5.out)
  have HI2 : Hid (StrsIn w5 uo nb B) := HC2.out.1.carry ((HB3.out.trans HB4.out).trans HB5.out)
  have HALL : Hid (Below w.heap.size w w5) := all_below HC1.out.2.2 HC2.out.2.2 HB3.out HB4.out HB5.out
  have HSZ : Hid (w.heap.size ≤ w5.heap.size) := HALL.out.size
  clear HA2 HB3 HB4 HB5 HP HP4 HO4 HP5 HC1 HC2 HA HB HA0 HB0
  go_wp2_with fail
  go_loopw [7] (fun i wr => ∃ k : Nat, k ≤ na ∧ i = .int .i64 k ∧ Hid (Below w5.heap.size w5 wr)) (fun i _ => na - (intOf i).toNat)
  case atStart => exact ⟨0, Nat.zero_le _, rfl, Below.refl _ _⟩
  case round =>
    obtain ⟨k, hk, rfl, HW⟩ := hrel
    by_cases hkn : k < na
    · obtain ⟨b, off, hvo, hb, hc⟩ := HI1.out (by omega)
      obtain ⟨g, hgo, hgl, hgc, -⟩ := HG.out (by omega)
      subst hvo hgo
      have f1 : wr.cell? ⟨b, off + k, none⟩ = some (.string (A k)) := (HW.out.cell hb).trans (hc k hkn)
      have f2 : wr.cell? ⟨g, k, none⟩ = some (.string (A k)) := (HW.out.cell hgl).trans (hgc k hkn)
      have hk2 : k < na + nb := by omega
      clear hc hgc
      go_wp2
      go_region
      all_goals go_wp2
      all_goals go_roundw
      case rel => exact ⟨k + 1, by omega, by go_num, HW.out.drew⟩
      case measure => simp [intOf]; omega
    · go_wp2
      go_loopw [8] (fun i wq => ∃ k : Nat, k ≤ nb ∧ i = .int .i64 k ∧ Hid (Below w5.heap.size w5 wq)) (fun i _ => nb - (intOf i).toNat)
      case atStart => exact ⟨0, Nat.zero_le _, rfl, HW.out⟩
      case round =>
        obtain ⟨j, hj, rfl, HX⟩ := hrel
        by_cases hjn : j < nb
        · obtain ⟨b, off, huo, hb, hc⟩ := HI2.out (by omega)
          obtain ⟨g, hgo, hgl, -, hgc⟩ := HG.out (by omega)
          subst huo hgo
          have f1 : wr.cell? ⟨b, off + j, none⟩ = some (.string (B j)) := (HX.out.cell hb).trans (hc j hjn)
          have f2 : wr.cell? ⟨g, na + j, none⟩ = some (.string (B j)) := (HX.out.cell hgl).trans (hgc j hjn)
          have hk2 : na + j < na + nb := by omega
          clear hc hgc
          go_wp2
          go_region
          all_goals go_wp2
          all_goals go_roundw
          case rel => exact ⟨j + 1, by omega, by go_num, HX.out.drew⟩
          case measure => simp [intOf]; omega
        · go_wp2
          go_ret
          exact ⟨rfl, HALL.out.trans (HX.out.mono HSZ.out)⟩
end Go.Proofs.YtpllgkakfempeaaGreat
namespace Go.Proofs.YtpllgkakfempeaaGreat.fnElideAppendsInCallOrder
open Go.ChangeShapes Go.WideShapes Go.ChangeAt Go.RowKit Go.Deep
set_option linter.unusedVariables false
theorem own : ownKnob Tryz.prog.godebug = none := by kernel_rfl
theorem cells9 : Tryz.prog.cellsOf 9 = 1 := by kernel_rfl
theorem laidOut : laidOutB Tryz.prog = true := by kernel_rfl
theorem view {H : Type} {enc : TypeId × Value → H} {W : World} {a0 : Option Addr} {len cap fuel : Nat} {x : DataW H × List MemPlace}
    (hf : DataW.trod enc Tryz.prog W 0 (fun _ => true) true fuel 36 (Value.slice a0 len cap).cells.toList = some x) :
    ∃ S, (a0 = none → len = 0 ∧ cap = 0) ∧ StrsIn W a0 len S ∧ len ≤ 9223372036854775807 := by
  rcases open_strs Tryz.underlying36 Tryz.underlying9 cells9 hf with ⟨hcs, hx⟩ | ⟨a, len', cap', m, Sx, hcs, _, hl, hm, hmm, hx, hcell⟩
  · simp [Value.cells] at hcs
    obtain ⟨rfl, rfl, rfl⟩ := hcs
    exact ⟨fun _ => ⟨#[]⟩, fun _ => ⟨rfl, rfl⟩, fun h => absurd h (Nat.lt_irrefl 0), by omega⟩
  · simp [Value.cells] at hcs
    obtain ⟨rfl, rfl, rfl⟩ := hcs
    simp only [if_true] at hmm
    subst hmm
    refine ⟨Sx, fun h => by simp at h, fun h0 => ?_, by unfold maxLen at hm; omega⟩
    obtain ⟨b, off, spot⟩ := a
    have hspot : spot = none := by simpa [Addr.add] using World.cell?_spot (hcell 0 (by omega)).1
    subst hspot
    have hc : ∀ i, i < len → W.cell? ⟨b, off + i, none⟩ = some (.string (Sx i)) := fun j hj => by rw [← add_plain]; exact (hcell j (by omega)).1
    exact ⟨b, off, rfl, World.block_lt_of_cell? W _ (hc 0 h0), hc⟩
set_option maxRecDepth 100000 in
theorem lifted (os : Os) (started : os.Started) (H : Type) (enc : TypeId × Value → H) :
    ReturnsInHanded {} Tryz.checked os 3 .any (Rows.fnElideAppendsInCallOrderSpec.pre6 enc Tryz.prog Tryz.f3 Rows.fnElideAppendsInCallOrderRow.domain false) (Rows.fnElideAppendsInCallOrderSpec.post enc Tryz.prog Tryz.f3 false true false false) := by
  refine returnsInHanded_of_change (C := Tryz.checked) own started (by kernel_rfl) Tryz.func3
    (ChangeSpec.witness6 (enc := enc) (C := Tryz.checked) false ⟨#[], #[.slice none 0 0, .slice none 0 0], []⟩ 8 (by kernel_rfl) (by kernel_rfl) (by kernel_rfl) (by kernel_rfl)) ?_
  intro W base args ds gs before hval0 hW hcnd _
  have hval : ∀ (j : Nat) t v, Tryz.f3.params[j]? = some t → args[j]? = some v → Value.okWide Tryz.prog W .any base t v := hval0
  have hW' := hW
  obtain ⟨p, q, hA0, hV, rfl, hfz, hnd⟩ := hW
  have hA : DataW.TrodAll enc Tryz.prog W 0 (fun _ => true) true Tryz.f3.params.toList args.toList ds p := hA0
  rw [Tryz.params3] at hA hval
  obtain ⟨v0, v1, d0, d1, p0, p1, rfl, rfl, rfl, h0, h1⟩ := trodAll_two hA
  obtain ⟨rfl, rfl⟩ := trodVars_none hV
  obtain ⟨a0, l0, c0, rfl⟩ := okWide_slice Tryz.underlying36 (hval 0 36 v0 rfl rfl)
  obtain ⟨a1, l1, c1, rfl⟩ := okWide_slice Tryz.underlying36 (hval 1 36 v1 rfl rfl)
  have h0k := h0
  have h1k := h1
  obtain ⟨fuel0, hf0⟩ := h0
  obtain ⟨fuel1, hf1⟩ := h1
  clear hA0 hval0
  simp only [List.append_nil] at hW'
  have hlt : ∀ x ∈ p0 ++ p1, x.block < W.heap.size := fun x hx => by simpa using hW'.lt x hx
  obtain ⟨A, n0, hA1, hl0⟩ := view hf0
  obtain ⟨B, n1, hB1, hl1⟩ := view hf1
  refine (walk W a0 a1 l0 c0 l1 c1 A B n0 n1 hA1 hB1 hl0 hl1).mono fun e W' ⟨he, hg⟩ => ?_
  subst he
  exact ⟨_, rfl, _, _, _, [], p0 ++ p1, [], hW', (trodAll_cons_mk (shut_bool Tryz.underlying4 _) trodAll_mk0), trodAll_mk2 (Below.trod laidOut (by kernel_rfl) (of_decide_eq_true (by kernel_rfl)) h0k hg (fun x hx => hlt x (by simp [hx]))) (Below.trod laidOut (by kernel_rfl) (of_decide_eq_true (by kernel_rfl)) h1k hg (fun x hx => hlt x (by simp [hx]))), rfl, hg.frame _, fun h => by cases h⟩
theorem over : Rows.fnElideAppendsInCallOrderRow.holds Tryz.pinned (OpenSpec.ofChange Rows.fnElideAppendsInCallOrderSpec) :=
  OpenClaim.holds_of_wide 3 Tryz.f3 rfl rfl rfl rfl rfl rfl rfl ⟨rfl, rfl, rfl, rfl, rfl⟩ rfl rfl rfl rfl rfl (by kernel_rfl) Tryz.func3 (by kernel_rfl)
    (of_decide_eq_true (by kernel_rfl)) (by unfold Func.isWrapper; first | (rw [if_pos (by decide +kernel)]; kernel_rfl) | (rw [if_neg (by decide +kernel)]; exact ⟨rfl, rfl⟩))
    (fun os started H enc _ => lifted os started H enc)
theorem proved : Rows.FnElideAppendsInCallOrderSaid :=
  over
#print axioms proved
end Go.Proofs.YtpllgkakfempeaaGreat.fnElideAppendsInCallOrder
