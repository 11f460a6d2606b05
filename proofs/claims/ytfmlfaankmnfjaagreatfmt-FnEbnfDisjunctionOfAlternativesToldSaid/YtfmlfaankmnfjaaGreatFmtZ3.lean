/- n025_51.FnEbnfDisjunctionOfAlternatives: one more alternative. The seat's flags: -reflectrows -leanrows (see REPORT.md, TRANSLATOR). -/
import Derived.Test.YtfmlfaankmnfjaaGreatFmtZ2
import Derived.Lib.OwnKind
import Derived.OneCell
namespace Go
/-- append to a slice of the call's own (or nil), as one step of a region that draws. -/
theorem step_append_own {P : Program} {ops : Array Oper} {o : Oper} {a : Act} {w : World} {K : Act → World → Prop} {Q : Exit → Act → World → Prop} {E : Prop}
    (hg : o.guard = none) (s x : Operand) (t : TypeId) (hop : o.op = Op.call { callee := Callee.builtin Builtin.append, args := #[s, x], argTypes := #[t, t] })
    (base : Nat) (e : TypeId) (i : TypeInfo) (z : Value) (size bytes : Nat) (h1 : P.underlying t = some (.slice e)) (h2 : P.info? e = some i) (h3 : i.zero = some z) (h4 : i.size = size) (h5 : i.bytes = bytes) (h6 : z.cells.size = size) (h7 : 0 < size)
    (v : Value) (n : Nat) (xs : List Value) (hs : a.eval s = v) (hown : w.ownsRow base e size v n xs)
    (ad : Addr) (m c : Nat) (news : List Value) (hx : a.eval x = .slice (some ad) m c) (hn : news.length = m * size) (hc : ∀ j u, news[j]? = some u → w.cell? (ad.add j) = some u) (h1c : ∀ u ∈ news, u.oneCell' = true)
    (b1 : n + m ≤ maxLen) (b2 : (n + m) * bytes ≤ 140737488355328) (hbase : base ≤ w.heap.size)
    (hK : ∀ v' w', w'.ownsRow base e size v' (n + m) (xs ++ news) → w.grownBy w' v.ownBlock → K (a.put o.dst v') w') :
    if Region.wanted o (yielded ops a.tmps) = true then Oper.wp P o a w K Q else E := by
  have hw : Region.wanted o (yielded ops a.tmps) = true := by simp [Region.wanted, hg]
  rw [if_pos hw]
  obtain ⟨v', w', hrun, r1, r2, _⟩ := run_append_own (P := P) w base t o.type e i z size bytes h1 h2 h3 h4 h5 h6 h7 v n xs hown ad m c news hn hc h1c b1 b2 hbase
  unfold Oper.wp
  simp [execOp, hop, resolve, invoke, builtin, hs, hx, hrun, Result.andThen]
  exact hK v' w' r1 r2
end Go
namespace Go.Proofs.YtfmlfaankmnfjaaGreatFmt
open Go.RowKit
theorem info_node : (Tryz.prog.info? 61).map (fun i => (i.zero, i.size, i.bytes)) = some (some .nilIface, 1, 16) := by kernel_rfl
theorem node_ne : (61 : TypeId) ≠ 59 ∧ (61 : TypeId) ≠ 63 ∧ (56 : TypeId) ≠ 59 ∧ (56 : TypeId) ≠ 63 := by decide
theorem disj_end {w0 w wa w' : World} {D k : Nat} {v v' u : Value} {xs : List Value} {N : Nat → Nat} {S : Nat → Nat → ByteArray} (hD : w.heap[D]? = some (.cells #[v] 56 (0, 0))) (hown : w.ownsRow (D + 1) 61 1 v k xs)
    (hN : ∀ i (h : i < xs.length), NodeH w (xs[i]'h) (N i) (S i)) (hb : Below D w0 w) (ha : Below w.heap.size w wa) (hown' : w'.ownsRow (D + 1) 61 1 v' (k + 1) (xs ++ [u])) (hg : wa.grownBy w' v.ownBlock) (hu : NodeH w u (N k) (S k)) :
    DisjH w0 (w'.setCell ⟨D, 0, none⟩ v') D (k + 1) (xs ++ [u]) N S := by
  obtain ⟨n1, n2, n3, n4⟩ := node_ne
  have hlt := heap_lt hD
  have howna : wa.ownsRow (D + 1) 61 1 v k xs := hown.kept (row := none) ⟨ha.os, ha.tape, ha.output, ha.size, fun j hj _ => ha.block j hj⟩ (by cases hv : v.ownBlock <;> simp)
  have hDa : wa.heap[D]? = some (.cells #[v] 56 (0, 0)) := (ha.block D hlt).trans hD
  have hD' : w'.heap[D]? = some (.cells #[v] 56 (0, 0)) := by
    rw [hg.block D (heap_lt hDa) (fun e => by have := (howna.lt D e.symm).1; omega)]
    exact hDa
  have hk : Keeps w (w'.setCell ⟨D, 0, none⟩ v') := ((keeps_below ha).trans (keeps_grown hg (Lib.ownsRow_kind howna) n1 n2)).trans (keeps_set hD' n3 n4)
  have hlen : xs.length = k := by simpa using hown.1
  refine ⟨v', one_setCell hD', ownsRow_setCell_below hown' (by show D < D + 1; omega) _, fun i hi => ?_, ?_⟩
  · by_cases hik : i < xs.length
    · rw [List.getElem_append_left hik]
      exact (hN i hik).keep hk
    · have e : i = k := by simp at hi; omega
      subst e
      have e2 : (xs ++ [u])[i]'hi = u := by rw [List.getElem_append_right (by omega)]; simp [hlen]
      rw [e2]
      exact hu.keep hk
  · exact (((hb.trans (ha.mono (Nat.le_of_lt hlt))).grown hg (by have := ha.size; omega) (fun g hgg => by have := (howna.lt g hgg).1; omega))).setCell (Nat.le_refl D) _
end Go.Proofs.YtfmlfaankmnfjaaGreatFmt
