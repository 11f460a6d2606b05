/- The EBNF of a root disjunction is the alternatives joined by bars: n025_51.FnEbnfDisjunctionOfAlternatives returns true for every input and leaves it as it was. Conditions: none on the input; the listed tables of unicode and utf8 are tied to the program's text; the dump is cut with -reflectrows -leanrows. -/
import Derived.Test.YtfmlfaankmnfjaaGreatFmtCards
import Derived.WalkKit
import Derived.ProofKit
import Derived.OpenShut
import Derived.ShutString
import Derived.ChangeOld
import Derived.Below
import Derived.Stop.JoinedAt
import Derived.Stop.Texts
import Derived.Stop.JoinedTold
import Derived.SizedLaws
import Derived.SevenTiedAt
import Derived.ClosedOfChecked
import Derived.Lay
import Derived.Deep.Strs
import Derived.Deep.Slices
import Derived.Carry
import Derived.Test.YtfmlfaankmnfjaaGreatFmtTie
import Derived.Test.YtfmlfaankmnfjaaGreatFmtZ7
namespace Go.Proofs.YtfmlfaankmnfjaaGreatFmt.fnEbnfDisjunctionOfAlternatives
open Go.ChangeShapes Go.WideShapes Go.ChangeAt Go.RowKit Go.Kit
open Go.ChangeMaps (open_string shut_string)
open Go.Extern.Stop Go.Stop Go.Extern
open Go.Deep (open_strs)
set_option linter.unusedVariables false
theorem own : ownKnob Tryz.prog.godebug = none := by kernel_rfl
theorem closed3 : laidOutB Tryz.checked.prog = true ∧ mapsRowed Tryz.checked.prog = true ∧ Tryz.checked.prog.plainKeys = true := Go.ClosedOfChecked.closed_of_checked Tryz.checked (by kernel_rfl) (by kernel_rfl) (by kernel_rfl)
/-- A start at which the listed variables read as they are listed, on a tape that F answers. -/
theorem witness_zip {H : Type} {enc : TypeId × Value → H} {C : Checked} {os : Os} {f : FuncId} {fn : Func} {s : OpenSpec} {conds : List PathCond} {apart : Bool} {laid : List (String × DataW Unit)} (w0 : World) (args : Array Value) (hos : w0.os = os)
    (hsh : (w0.forCall (fun _ _ => 0) ⟨#[], args, []⟩).Shaped C.prog)
    (hok : Input.okWideB C.prog (w0.forCall (fun _ _ => 0) ⟨#[], args, []⟩) f ⟨#[], args, []⟩ = true)
    (hrow : s.preRow enc C.prog fn conds apart laid (w0.forCall (fun _ _ => 0) ⟨#[], args, []⟩).memory args) (F : Stop.Interp) :
    ∃ (w : World) (tape : Tape) (i : Input), w.os = os ∧ (w.forCall tape i).Shaped C.prog ∧ i.vars = [] ∧ Input.okWide C.prog (w.forCall tape i) .any w.heap.size f i ∧
      s.preRow enc C.prog fn conds apart laid (w.forCall tape i).memory i.args ∧ ({} : Assume).holds C.prog (lone (Frame.enter C.prog f i.args .normal) [] (w.forCall tape i)) ∧ F.answers tape :=
  ⟨w0, F.over fun _ _ => 0, ⟨#[], args, []⟩, hos, hsh, (Input.okWide_of_okWideB (base := 0) hok).1, (Input.okWide_of_okWideB hok).2, hrow, by
    simp only [Assume.holds]
    exact ⟨by simp, by simp, fun _ => F.over_modest Modest.zero, by simp, by simp⟩, F.over_answers _⟩
theorem laid_met (os : Os) (args : Array Value) : laidMetH Tryz.prog Rows.fnEbnfDisjunctionOfAlternativesRow.laid ((World.laidAll Tryz.prog os Rows.fnEbnfDisjunctionOfAlternativesRow.laid).forCall (fun _ _ => 0) ⟨#[], args, []⟩).memory := by
  unfold laidMetH
  exact laidMet_laidAll _ (by kernel_rfl) (by kernel_rfl)
theorem shaped (os : Os) (args : Array Value) : ((World.laidAll Tryz.prog os Rows.fnEbnfDisjunctionOfAlternativesRow.laid).forCall (fun _ _ => 0) ⟨#[], args, []⟩).Shaped Tryz.prog := World.shaped_of_ZipB (by kernel_rfl) (by kernel_rfl)
theorem row_met (os : Os) {H : Type} (enc : TypeId × Value → H) : (OpenSpec.ofChange Rows.fnEbnfDisjunctionOfAlternativesSpec).preRow enc Tryz.prog Tryz.f3 [] false Rows.fnEbnfDisjunctionOfAlternativesRow.laid ((World.laidAll Tryz.prog os Rows.fnEbnfDisjunctionOfAlternativesRow.laid).forCall (fun _ _ => 0) ⟨#[], #[.slice none 0 0], []⟩).memory #[.slice none 0 0] :=
  OpenSpec.preRow_of_B rfl 8 (by kernel_rfl) (by kernel_rfl) (laid_met os _)
theorem cellsStr : Tryz.prog.cellsOf 9 = 1 := by kernel_rfl
theorem cellsStrs : Tryz.prog.cellsOf 38 = 1 := by kernel_rfl
theorem inner {H : Type} {enc : TypeId × Value → H} {W : World} {v : Value} {fuel : Nat} {x : DataW H × List MemPlace}
    (hf : DataW.trod enc Tryz.prog W 0 (fun _ => true) true fuel 38 [v] = some x) :
    ∃ t : Option Addr × Nat × Nat × (Nat → ByteArray), v = .slice t.1 t.2.1 t.2.2.1 ∧ (t.1 = none → t.2.1 = 0 ∧ t.2.2.1 = 0) ∧ StrsIn W t.1 t.2.1 t.2.2.2 ∧ t.2.1 ≤ 9223372036854775807 := by
  rcases open_strs Tryz.underlying38 Tryz.underlying9 cellsStr hf with ⟨hcs, _⟩ | ⟨a, len, cap, m, Sx, hcs, _, hl, hm, hmm, _, hcell⟩
  · simp at hcs
    subst hcs
    exact ⟨(none, 0, 0, fun _ => ⟨#[]⟩), rfl, fun _ => ⟨rfl, rfl⟩, fun h => absurd h (Nat.lt_irrefl 0), by show 0 ≤ _; omega⟩
  · simp at hcs
    subst hcs
    simp only [if_true] at hmm
    subst hmm
    refine ⟨(some a, len, m, Sx), rfl, fun h => by simp at h, fun h0 => ?_, by unfold maxLen at hm; show len ≤ _; omega⟩
    obtain ⟨b, off, spot⟩ := a
    have hspot : spot = none := by simpa [Addr.add] using World.cell?_spot (hcell 0 (by show 0 < m; have : 0 < len := h0; omega)).1
    subst hspot
    have hc : ∀ i, i < len → W.cell? ⟨b, off + i, none⟩ = some (.string (Sx i)) := fun j hj => by rw [← add_plain]; exact (hcell j (by omega)).1
    exact ⟨b, off, rfl, World.block_lt_of_cell? W _ (hc 0 h0), hc⟩
theorem view {H : Type} {enc : TypeId × Value → H} {W : World} {a0 : Option Addr} {len cap fuel : Nat} {x : DataW H × List MemPlace}
    (hf : DataW.trod enc Tryz.prog W 0 (fun _ => true) true fuel 36 (Value.slice a0 len cap).cells.toList = some x) :
    ∃ A N C S, AltsIn W a0 len A N C S ∧ len ≤ 9223372036854775807 := by
  rcases Deep.open_slice1 Tryz.underlying36 cellsStrs hf with ⟨hcs, _⟩ | ⟨a, len', cap', m, n, V, D, Pl, hcs, _, hl, hm, hmm, _, hcell⟩
  · simp [Value.cells] at hcs
    obtain ⟨rfl, rfl, rfl⟩ := hcs
    exact ⟨fun _ => none, fun _ => 0, fun _ => 0, fun _ _ => ⟨#[]⟩, fun h => absurd h (Nat.lt_irrefl 0), by omega⟩
  · simp [Value.cells] at hcs
    obtain ⟨rfl, rfl, rfl⟩ := hcs
    simp only [if_true] at hmm
    subst hmm
    obtain ⟨t, ht⟩ := Deep.choose_lt (n := len) (α := Option Addr × Nat × Nat × (Nat → ByteArray)) (p := fun i t => V i = .slice t.1 t.2.1 t.2.2.1 ∧ (t.1 = none → t.2.1 = 0 ∧ t.2.2.1 = 0) ∧ StrsIn W t.1 t.2.1 t.2.2.2 ∧ t.2.1 ≤ 9223372036854775807) (fun i hi => inner (hcell i (by omega)).2)
    refine ⟨fun i => (t i).1, fun i => (t i).2.1, fun i => (t i).2.2.1, fun i => (t i).2.2.2, fun h0 => ?_, by unfold maxLen at hm; omega⟩
    obtain ⟨b, off, spot⟩ := a
    have hspot : spot = none := by simpa [Addr.add] using World.cell?_spot (hcell 0 (by omega)).1
    subst hspot
    have hc : ∀ i, i < len → W.cell? ⟨b, off + i, none⟩ = some (V i) := fun j hj => by rw [← add_plain]; exact (hcell j (by omega)).1
    refine ⟨b, off, rfl, World.block_lt_of_cell? W _ (hc 0 h0), fun i hi => ?_⟩
    obtain ⟨h1, h2, h3, h4⟩ := ht i hi
    exact ⟨by rw [hc i hi, h1], h2, h3, h4⟩
set_option maxRecDepth 100000 in
theorem lifted (os : Os) (started : os.Started) (H : Type) (enc : TypeId × Value → H) :
    ReturnsInTold none {} Tryz.checked os 3 .any Input.okWide ((OpenSpec.ofChange Rows.fnEbnfDisjunctionOfAlternativesSpec).preRow enc Tryz.prog Tryz.f3 [] false Rows.fnEbnfDisjunctionOfAlternativesRow.laid) (fun F => ((OpenSpec.ofChange Rows.fnEbnfDisjunctionOfAlternativesSpec).at F).post enc Tryz.prog Tryz.f3 false true false false) (aloneAtReturn Tryz.prog) nothingAlways := by
  refine returnsInTold_of_row (C := Tryz.checked) (s := OpenSpec.ofChange Rows.fnEbnfDisjunctionOfAlternativesSpec) (by kernel_rfl) own started (by kernel_rfl) Tryz.func3
    (fun F => witness_zip (enc := enc) (C := Tryz.checked) (World.laidAll Tryz.prog os Rows.fnEbnfDisjunctionOfAlternativesRow.laid) #[.slice none 0 0] (World.laidAll_os _ _ _) (shaped os _) (by kernel_rfl) (row_met os enc) F) ?_
  intro F W base args ds gs before _ hF hval0 hW _ _ hsz _ _
  have hval : ∀ (j : Nat) t v, Tryz.f3.params[j]? = some t → args[j]? = some v → Value.okWide Tryz.prog W .any base t v := hval0
  have hW' := hW
  obtain ⟨p, q, hA0, hV, rfl, hfz, hnd⟩ := hW
  have hA : DataW.TrodAll enc Tryz.prog W 0 (fun _ => true) true Tryz.f3.params.toList args.toList ds p := hA0
  rw [Tryz.params3] at hA hval
  obtain ⟨v0, vs0, d0, ds0, p0, q0, hargs, rfl, rfl, h0, r0⟩ := trodAll_cons hA
  obtain ⟨rfl, rfl, rfl⟩ := trodAll_nil r0
  obtain rfl : args = #[v0] := by cases args; simp_all
  obtain ⟨rfl, rfl⟩ := trodVars_none hV
  obtain ⟨a0, l0, c0, rfl⟩ := okWide_slice Tryz.underlying36 (hval 0 36 v0 rfl rfl)
  have h0k := h0
  obtain ⟨fuel0, hf0⟩ := h0
  clear hA0 hval0
  simp only [List.append_nil] at hW'
  have hlt : ∀ x ∈ p0, x.block < W.heap.size := fun x hx => by simpa using hW'.lt x hx
  obtain ⟨A0, N0, C0, S0, hA0, hl0⟩ := view hf0
  refine (walkdisj W a0 l0 c0 A0 N0 C0 S0 hA0 hl0).mono fun e W' ⟨he, hg⟩ => ?_
  subst he
  exact ⟨_, rfl, _, _, _, [], (p0 ++ []), [], hW', (trodAll_cons_mk (shut_bool Tryz.underlying4 _) trodAll_mk0), (trodAll_cons_mk (Below.trod closed3.1 (by kernel_rfl) (of_decide_eq_true (by kernel_rfl)) h0k hg (fun x hx => hlt x (by simp [hx]))) trodAll_mk0), rfl, hg.frame _, fun h => by cases h⟩

theorem stops : Tryz.pinned.checked.prog.stops = ["fmt.Sprintf, its operands' methods called"] := by kernel_rfl
theorem stopKnobs : Tryz.pinned.checked.prog.stopKnobs = [] := by kernel_rfl
theorem quiet (os : Os) : Stop.quiet Tryz.pinned.checked.prog os := by
  intro k hk
  rw [stopKnobs] at hk
  cases hk
set_option maxHeartbeats 16000000 in
set_option maxRecDepth 100000 in
theorem proved : Rows.FnEbnfDisjunctionOfAlternativesToldSaid :=
  Claim7.holds_of_told_tied_any_at .later 3 Tryz.f3 "fmt.Sprintf, its operands' methods called" [] [] _ _ _ [.data, .pinned, .pinned] true (by as_aux_lemma => kernel_rfl) rfl rfl rfl closed3.1 closed3.2.1 rfl ⟨rfl, rfl, rfl, rfl, rfl, rfl, rfl⟩ rfl rfl (by as_aux_lemma => kernel_rfl) (by as_aux_lemma => kernel_rfl) Tryz.func3 (by as_aux_lemma => kernel_rfl)
    (of_decide_eq_true (by as_aux_lemma => kernel_rfl)) (of_decide_eq_true (by as_aux_lemma => kernel_rfl)) stops.symm rfl stopKnobs.symm (by as_aux_lemma => kernel_rfl)
    (by as_aux_lemma => kernel_rfl) (by as_aux_lemma => kernel_rfl) (by as_aux_lemma => kernel_rfl) (by as_aux_lemma => kernel_rfl) (by as_aux_lemma => kernel_rfl) (by as_aux_lemma => kernel_rfl) (by as_aux_lemma => kernel_rfl) (by as_aux_lemma => kernel_rfl) (by as_aux_lemma => kernel_rfl) rfl (by as_aux_lemma => kernel_rfl) rfl rfl
    rfl rfl
    rfl (by as_aux_lemma => kernel_rfl) (by as_aux_lemma => kernel_rfl) (by as_aux_lemma => kernel_rfl) (by decide) (by as_aux_lemma => kernel_rfl) fnEbnfDisjunctionOfAlternatives_row_tie
    (OpenClaim.moreEntering_of (by as_aux_lemma => kernel_rfl) (by as_aux_lemma => kernel_rfl) (by as_aux_lemma => kernel_rfl) (by as_aux_lemma => kernel_rfl) (by as_aux_lemma => kernel_rfl) (by as_aux_lemma => kernel_rfl) (by as_aux_lemma => kernel_rfl) (by as_aux_lemma => kernel_rfl) (by as_aux_lemma => kernel_rfl) (by as_aux_lemma => kernel_rfl))
    ⟨_, WideRow.started_initial, quiet _⟩
    (fun os started _ H enc _ => lifted os started H enc) ⟨(by as_aux_lemma => kernel_rfl), (by as_aux_lemma => kernel_rfl)⟩
#print axioms proved
end Go.Proofs.YtfmlfaankmnfjaaGreatFmt.fnEbnfDisjunctionOfAlternatives
