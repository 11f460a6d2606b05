/- append to a slice of bytes of the call's own, as one step of a region that draws its order. The seat's flags: -reflectrows -leanrows (see REPORT.md, TRANSLATOR). -/
import Derived.Test.YtiofodmlgneieaaGreatFmtBf
import Derived.Deep.RegionLaw
namespace Go
/-- append to a slice of the call's own (or nil), as one step of a region that draws. -/
theorem step_append_own {P : Program} {ops : Array Oper} {o : Oper} {a : Act} {w : World} {K : Act → World → Prop} {Q : Exit → Act → World → Prop} {E : Prop}
    (hg : o.guard = none) (s x : Operand) (t : TypeId) (hop : o.op = Op.call { callee := Callee.builtin Builtin.append, args := #[s, x], argTypes := #[t, t] })
    (base : Nat) (e : TypeId) (i : TypeInfo) (z : Value) (size bytes : Nat) (h1 : P.underlying t = some (.slice e)) (h2 : P.info? e = some i) (h3 : i.zero = some z) (h4 : i.size = size) (h5 : i.bytes = bytes) (h6 : z.cells.size = size) (h7 : 0 < size)
    (v : Value) (n : Nat) (xs : List Value) (hs : a.eval s = v) (hown : w.ownsRow base e size v n xs)
    (ad : Addr) (m c : Nat) (news : List Value) (hx : a.eval x = .slice (some ad) m c) (hn : news.length = m * size) (hc : ∀ j u, news[j]? = some u → w.cell? (ad.add j) = some u) (h1c : ∀ u ∈ news, u.oneCell' = true)
    (b1 : n + m ≤ maxLen) (b2 : (n + m) * bytes ≤ 140737488355328) (hbase : base ≤ w.heap.size)
    (hK : ∀ v' w', w'.ownsRow base e size v' (n + m) (xs ++ news) → w.grownBy w' v.ownBlock → K (a.put o.dst v') w') :
    if Region.wanted o (yielded ops a.tmps) = true then Oper.wp P o a w K Q else E := by
  have hw : Region.wanted o (yielded ops a.tmps) = true := by simp [Region.wanted, hg]
  rw [if_pos hw]
  obtain ⟨v', w', hrun, r1, r2, _⟩ := run_append_own (P := P) w base t o.type e i z size bytes h1 h2 h3 h4 h5 h6 h7 v n xs hown ad m c news hn hc h1c b1 b2 hbase
  unfold Oper.wp
  simp [execOp, hop, resolve, invoke, builtin, hs, hx, hrun, Result.andThen]
  exact hK v' w' r1 r2
end Go
namespace Go.Proofs.YtiofodmlgneieaaGreatFmt
open Go.RowKit
theorem buf_step {ops : Array Oper} {o : Oper} {a : Act} {K : Act → World → Prop} {Q : Exit → Act → World → Prop} {E : Prop} {B : Nat} {w0 W : World} {v : Value} {l : List UInt8} (hgd : o.guard = none) (s x : Operand)
    (ho : o.op = .call { callee := .builtin .append, args := #[s, x], argTypes := #[35, 35] }) (news : List UInt8) (m : Nat) (hm : news.length = m) (g : Nat)
    (hs : a.eval s = v) (hx : a.eval x = .slice (some ⟨g, 0, none⟩) m m) (hc : ∀ j u, (cellsOf news)[j]? = some u → W.cell? ⟨g, j, none⟩ = some u) (hB : Buf B w0 W v l) (hl : l.length + m ≤ 140737488355328)
    (h : ∀ v' w', Buf B w0 w' v' (l ++ news) → K (a.put o.dst v') w') :
    if Region.wanted o (yielded ops a.tmps) = true then Oper.wp Tryz.prog o a W K Q else E := by
  obtain ⟨i0, hi, hz0, hz1, hz2⟩ := info_parts infoByte
  refine step_append_own hgd s x 35 ho B 5 i0 (.int .u8 0) 1 1 Tryz.underlying35 hi hz0 hz1 hz2 rfl (by decide) v l.length (cellsOf l) hs hB.1 ⟨g, 0, none⟩ m m (cellsOf news) hx ?_ ?_ ?_ ?_ ?_ hB.2.2 ?_
  · simp [cellsOf, hm]
  · intro j u hj
    have e : (⟨g, 0, none⟩ : Addr).add j = ⟨g, j, none⟩ := by unfold Addr.add; split <;> simp_all
    rw [e]
    exact hc j u hj
  · intro u hu
    simp only [cellsOf, List.mem_map] at hu
    obtain ⟨b, _, rfl⟩ := hu
    rfl
  · unfold maxLen; omega
  · omega
  · intro v' w' hown hg
    refine h v' w' ⟨?_, ?_, ?_⟩
    · rw [List.length_append, hm]
      simpa [cellsOf] using hown
    · exact hB.2.1.grown hg hB.2.2 (fun k hk => (hB.1.lt k hk).1)
    · have h1 := hg.size; have h2 := hB.2.2; omega
theorem cells_lit (w : World) (cs : Array Value) (news : List UInt8) (h : cs.toList = cellsOf news) : ∀ j u, (cellsOf news)[j]? = some u → (w.alloc (.cells cs 5)).drew.cell? ⟨w.heap.size, j, none⟩ = some u := fun j u hj =>
  cell_new w cs _ j u (by rw [← h] at hj; simpa using hj)
theorem Buf.lit {B : Nat} {w0 w : World} {v : Value} {l : List UInt8} (h : Buf B w0 w v l) (o : Obj) : Buf B w0 (w.alloc o).drew v l := (h.carry ((Below.refl _ w).alloc (Nat.le_refl _) o)).draw
end Go.Proofs.YtiofodmlgneieaaGreatFmt
