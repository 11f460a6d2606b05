/- maybeRef to the pointer template hands back the variable's own address: n025_11.FnMaybeRefPointerAliases returns true for every int64. Conditions: none on the input; the dump is cut with -reflectrows -leanrows; the calls of package reflect answer as the model's entries say. -/
import Derived.Test.YtmfkenjlcplkdaaGreatRefB
import Derived.OpenShut
import Derived.ChangeOld
namespace Go.Proofs.YtmfkenjlcplkdaaGreat.fnMaybeRefPointerAliases
open Go.ChangeShapes Go.WideShapes Go.ChangeAt Go.RowKit
theorem own : ownKnob Tryz.prog.godebug = none := by kernel_rfl
set_option maxRecDepth 100000 in
theorem lifted (os : Os) (started : os.Started) (H : Type) (enc : TypeId × Value → H) :
    ReturnsInHanded {} Tryz.checked os 4 .any (Rows.fnMaybeRefPointerAliasesSpec.pre6 enc Tryz.prog Tryz.f4 Rows.fnMaybeRefPointerAliasesRow.domain false) (Rows.fnMaybeRefPointerAliasesSpec.post enc Tryz.prog Tryz.f4 false true false false) := by
  refine returnsInHanded_of_calls own started (by kernel_rfl)
    (ChangeSpec.witness6 (enc := enc) (C := Tryz.checked) false ⟨#[], #[.int .i64 0], []⟩ 8 (by kernel_rfl) (by kernel_rfl) (by kernel_rfl) (by kernel_rfl)) ?_
  intro w tape i _ hshape _ hok hpre _
  obtain ⟨_, _, _, fn', hfn', _, _, _, _, hval0⟩ := hok
  obtain rfl : fn' = Tryz.f4 := Option.some.inj (hfn'.symm.trans Tryz.func4)
  obtain ⟨⟨ds, gs, before, hw, _⟩, _⟩ := hpre
  have hW : DataW.Whole enc Tryz.prog Tryz.f4.params.toList Rows.fnMaybeRefPointerAliasesSpec.vars false (w.forCall tape i) i.args.toList ds gs before := DataW.Whole.of_heap (w' := w.forCall tape i) (by rfl) hw
  have h0 : (w.forCall tape i).heap.size ≠ 0 := shaped_size hshape
  generalize w.forCall tape i = W at hval0 hW h0 ⊢
  obtain ⟨_, args, _⟩ := i
  have hval : ∀ (j : Nat) t v, Tryz.f4.params[j]? = some t → args[j]? = some v → Value.okWide Tryz.prog W .any _ t v := hval0
  have hW' := hW
  obtain ⟨p, q, hA0, hV, rfl, hfz, hnd⟩ := hW
  have hA : DataW.TrodAll enc Tryz.prog W 0 (fun _ => true) true Tryz.f4.params.toList args.toList ds p := hA0
  rw [Tryz.params4] at hA hval
  obtain ⟨v0, vs0, d0, ds0, p0, q0, hargs, rfl, rfl, h1, r0⟩ := trodAll_cons hA
  obtain ⟨rfl, rfl, rfl⟩ := trodAll_nil r0
  obtain rfl : args = #[v0] := by cases args; simp_all
  obtain ⟨rfl, rfl⟩ := trodVars_none hV
  obtain ⟨a0, rfl, rfl, rfl, w0⟩ := open_int Tryz.underlying2 (hval 0 2 v0 rfl rfl) h1
  clear hA0 hval0
  simp only [List.append_nil] at hW'
  refine (walk_ptr a0 W h0).mono fun e W' ⟨he, hg⟩ => ?_
  subst he
  exact ChangeSpec.post_blind ⟨_, _, _, [], [], [], hW', (trodAll_cons_mk (shut_bool Tryz.underlying4 _) trodAll_mk0), (trodAll_cons_mk (shut_int Tryz.underlying2 w0) trodAll_mk0), rfl, hg.frame _, fun h => by cases h⟩
set_option maxHeartbeats 8000000 in
theorem facts : joinedFacts Tryz.pinned.checked.prog 4 Tryz.f4 Rows.fnMaybeRefPointerAliasesSpec Rows.fnMaybeRefPointerAliasesRow = true := by
  unfold joinedFacts
  repeat' (with_reducible refine Bool.and_eq_true_iff.mpr ⟨?_, ?_⟩)
  all_goals (as_aux_lemma => kernel_rfl)
theorem over : Rows.fnMaybeRefPointerAliasesRow.holds Tryz.pinned (OpenSpec.ofChange Rows.fnMaybeRefPointerAliasesSpec) :=
  OpenClaim.holds_of_wide 4 Tryz.f4 rfl rfl rfl rfl rfl rfl rfl ⟨rfl, rfl, rfl, rfl, rfl⟩ rfl rfl rfl rfl rfl (by as_aux_lemma => kernel_rfl) Tryz.func4 facts
    (of_decide_eq_true (by kernel_rfl)) (by unfold Func.isWrapper; first | (rw [if_pos (by decide +kernel)]; kernel_rfl) | (rw [if_neg (by decide +kernel)]; exact ⟨rfl, rfl⟩))
    (fun os started H enc _ => lifted os started H enc)
theorem proved : Rows.FnMaybeRefPointerAliasesSaid :=
  over
#print axioms proved
end Go.Proofs.YtmfkenjlcplkdaaGreat.fnMaybeRefPointerAliases
