/- The option closure appends its types to the list of the options; a copy of a slice of strings. Conditions: the dump is cut with -reflectrows -leanrows. -/
import Derived.Test.YtpllgkakfempeaaGreatElA
import Derived.Deep.RegionLaw
import Derived.Lib.SmallJoins
import Derived.Laws.AppendOwnNone
import Derived.ProofKit
import Derived.WalkSpells
namespace Go
/-- append to a slice of the call's own (or nil), as one step of a region that draws. -/
theorem step_append_own {P : Program} {ops : Array Oper} {o : Oper} {a : Act} {w : World} {K : Act → World → Prop} {Q : Exit → Act → World → Prop} {E : Prop}
    (hg : o.guard = none) (s x : Operand) (t : TypeId) (hop : o.op = Op.call { callee := Callee.builtin Builtin.append, args := #[s, x], argTypes := #[t, t] })
    (base : Nat) (e : TypeId) (i : TypeInfo) (z : Value) (size bytes : Nat) (h1 : P.underlying t = some (.slice e)) (h2 : P.info? e = some i) (h3 : i.zero = some z) (h4 : i.size = size) (h5 : i.bytes = bytes) (h6 : z.cells.size = size) (h7 : 0 < size)
    (v : Value) (n : Nat) (xs : List Value) (hs : a.eval s = v) (hown : w.ownsRow base e size v n xs)
    (ad : Addr) (m c : Nat) (news : List Value) (hx : a.eval x = .slice (some ad) m c) (hn : news.length = m * size) (hc : ∀ j u, news[j]? = some u → w.cell? (ad.add j) = some u) (h1c : ∀ u ∈ news, u.oneCell' = true)
    (b1 : n + m ≤ maxLen) (b2 : (n + m) * bytes ≤ 140737488355328) (hbase : base ≤ w.heap.size)
    (hK : ∀ v' w', w'.ownsRow base e size v' (n + m) (xs ++ news) → w.grownBy w' v.ownBlock → K (a.put o.dst v') w') :
    if Region.wanted o (yielded ops a.tmps) = true then Oper.wp P o a w K Q else E := by
  have hw : Region.wanted o (yielded ops a.tmps) = true := by simp [Region.wanted, hg]
  rw [if_pos hw]
  obtain ⟨v', w', hrun, r1, r2, _⟩ := run_append_own (P := P) w base t o.type e i z size bytes h1 h2 h3 h4 h5 h6 h7 v n xs hown ad m c news hn hc h1c b1 b2 hbase
  unfold Oper.wp
  simp [execOp, hop, resolve, invoke, builtin, hs, hx, hrun, Result.andThen]
  exact hK v' w' r1 r2
/-- the same where nothing (a nil slice) is appended. -/
theorem step_append_nil {P : Program} {ops : Array Oper} {o : Oper} {a : Act} {w : World} {K : Act → World → Prop} {Q : Exit → Act → World → Prop} {E : Prop}
    (hg : o.guard = none) (s x : Operand) (t : TypeId) (hop : o.op = Op.call { callee := Callee.builtin Builtin.append, args := #[s, x], argTypes := #[t, t] })
    (base : Nat) (e : TypeId) (i : TypeInfo) (size : Nat) (h1 : P.underlying t = some (.slice e)) (h2 : P.info? e = some i)
    (v : Value) (n : Nat) (xs : List Value) (hs : a.eval s = v) (hown : w.ownsRow base e size v n xs) (hx : a.eval x = .slice none 0 0)
    (hK : K (a.put o.dst v) w) :
    if Region.wanted o (yielded ops a.tmps) = true then Oper.wp P o a w K Q else E := by
  have hw : Region.wanted o (yielded ops a.tmps) = true := by simp [Region.wanted, hg]
  rw [if_pos hw]
  have hrun := run_append_owned_none (P := P) (w := w) base t o.type e i size h1 h2 v n xs hown
  unfold Oper.wp
  simp [execOp, hop, resolve, invoke, builtin, hs, hx, hrun, Result.andThen]
  exact hK
end Go
namespace Go.Proofs.YtpllgkakfempeaaGreat
open Go.RowKit
theorem info9 : (Tryz.prog.info? 9).map (fun i => (i.zero, i.size, i.bytes)) = some (some (.string ⟨#[]⟩), 1, 16) := by kernel_rfl
def optCells (v : Value) : Array Value := #[.nilIface, .nilIface, .map none, .int .i64 0, .map none, .map none, .slice none 0 0, .slice none 0 0, .slice none 0 0, v]
def OptAt (w : World) (p : Nat) (v : Value) : Prop := w.heap[p]? = some (.cells (optCells v) 55 (0, 0))
def news (m : Nat) (S : Nat → ByteArray) : List Value := (List.range m).map fun i => .string (S i)
theorem news_len (m : Nat) (S : Nat → ByteArray) : (news m S).length = m * 1 := by simp [news]
theorem news_one (m : Nat) (S : Nat → ByteArray) : ∀ u ∈ news m S, u.oneCell' = true := by
  intro u hu
  obtain ⟨i, _, rfl⟩ := List.mem_map.1 hu
  rfl
theorem own_slice {w : World} {base size n : Nat} {e : TypeId} {v : Value} {xs : List Value} (h : w.ownsRow base e size v n xs) : ∃ vo vc, v = .slice vo n vc := by
  rcases Joins.ownsRow_forms h with ⟨rfl, rfl⟩ | ⟨g, cap, rfl⟩
  · exact ⟨_, _, rfl⟩
  · exact ⟨_, _, rfl⟩
theorem OptAt.cell {w : World} {p : Nat} {v : Value} (h : OptAt w p v) : w.cell? ⟨p, 9, none⟩ = some v := by unfold OptAt at h; simp [World.cell?, h, optCells]
theorem OptAt.free {w : World} {p : Nat} {v : Value} (h : OptAt w p v) : w.frozen? ⟨p, 9, none⟩ = false := by unfold OptAt at h; simp [World.frozen?, h]
theorem OptAt.set {w : World} {p : Nat} {v : Value} (h : OptAt w p v) (v' : Value) : OptAt (w.setCell ⟨p, 9, none⟩ v') p v' := by
  unfold OptAt at *
  simp [World.setCell, Array.getElem?_modify, h, optCells]
theorem OptAt.grown {w w' : World} {p n : Nat} {v : Value} {xs : List Value} (h : OptAt w p v) (ho : w.ownsRow (p + 1) 9 1 v n xs) (hg : w.grownBy w' v.ownBlock) : OptAt w' p v := by
  unfold OptAt at *
  rw [hg.block p (lt_of_block h) (fun e => by have := (ho.lt p e.symm).1; omega), h]
theorem own_set {w : World} {p n : Nat} {v u : Value} {xs : List Value} (ho : w.ownsRow (p + 1) 9 1 v n xs) : (w.setCell ⟨p, 9, none⟩ u).ownsRow (p + 1) 9 1 v n xs := ownsRow_setCell_below ho (by show p < p + 1; omega) u
def Elided (w : World) (p n : Nat) (xs : List Value) (e : Ending) (w' : World) : Prop := e = .returned .nilIface ∧ ∃ v', OptAt w' p v' ∧ w'.ownsRow (p + 1) 9 1 v' n xs ∧ Below p w w'
theorem elide_end {w w' : World} {p n n' : Nat} {v v' : Value} {xs xs' : List Value} (hp : OptAt w p v) (ho : w.ownsRow (p + 1) 9 1 v n xs) (ho' : w'.ownsRow (p + 1) 9 1 v' n' xs') (hg : w.drew.grownBy w' v.ownBlock) :
    Elided w p n' xs' (.returned .nilIface) (w'.setCell ⟨p, 9, none⟩ v') := by
  refine ⟨rfl, v', ((OptAt.grown (w := w.drew) hp ho hg).set v'), own_set ho', ?_⟩
  have h1 : Below p w w' := ((Below.refl p w).drew).grown hg (by have := lt_of_block hp; show p ≤ w.heap.size; omega) (fun k hk => by have := (ho.lt k hk).1; omega)
  exact h1.setCell (Nat.le_refl _) _
set_option maxHeartbeats 1000000 in
set_option maxRecDepth 100000 in
theorem el_some (w : World) (p t : Nat) (v : Value) (n : Nat) (xs : List Value) (a : Addr) (m c : Nat) (S : Nat → ByteArray) (hp : OptAt w p v) (ht : w.heap[t]? = some (.cells #[.slice (some a) m c] 36 (0, 0)))
    (hown : w.ownsRow (p + 1) 9 1 v n xs) (hS : ∀ i, i < m → w.cell? (a.add i) = some (.string (S i))) (hb : n + m ≤ 4194304) :
    Calls Tryz.prog 11 #[.pointer (some ⟨p, 0, none⟩), .pointer (some ⟨t, 0, none⟩)] w fun e w' => Elided w p (n + m) (xs ++ news m S) e w' := by
  obtain ⟨i0, hi, hz0, hz1, hz2⟩ := info_parts info9
  obtain ⟨vo, vc, rfl⟩ := own_slice hown
  have c9 := hp.cell
  have tc : w.cell? ⟨t, 0, none⟩ = some (.slice (some a) m c) := cell_of_one ht
  have hnc : Hid (∀ j u, (news m S)[j]? = some u → w.drew.cell? (a.add j) = some u) := by
    intro j u hj
    obtain ⟨hlt, rfl⟩ := List.getElem?_eq_some_iff.1 hj
    have hjm : j < m := by simpa [news] using hlt
    simpa [news] using hS j hjm
  have HP := Lib.hid hp
  have HO : Hid (w.drew.ownsRow (p + 1) 9 1 (.slice vo n vc) n xs) := hown
  have HB := Lib.hid hb
  have hsz : Hid (p + 1 ≤ w.drew.heap.size) := by have := lt_of_block hp; exact (show p + 1 ≤ w.heap.size by omega)
  have b1 : Hid (n + m ≤ maxLen) := by show n + m ≤ maxLen; unfold maxLen; omega
  have b2 : Hid ((n + m) * 16 ≤ 140737488355328) := by show (n + m) * 16 ≤ _; omega
  clear hp ht hown hS hb
  go_enter Tryz.func11, Tryz.ntmps11
  go_wp2
  go_region_law (refine step_append_own rfl (.tmp 8) (.tmp 9) 36 rfl (p + 1) 9 i0 (.string ⟨#[]⟩) 1 16 Tryz.underlying36 hi hz0 hz1 hz2 rfl (by decide) (.slice vo n vc) n xs (by simp [Act.eval]) HO.out a m c (news m S) (by simp [Act.eval]) (news_len _ _) hnc.out (news_one _ _) b1.out b2.out hsz.out ?_; intro v' w' hown' hgrow; obtain ⟨vo', vc', hv'⟩ := own_slice hown'; rw [hv'] at hown' ⊢; have c9' := (OptAt.grown (w := w.drew) HP.out HO.out hgrow).cell; have f9' := (OptAt.grown (w := w.drew) HP.out HO.out hgrow).free; have HO' := Lib.hid hown'; have HG := Lib.hid hgrow; clear hown' hgrow)
  all_goals (go_wp2; go_ret; exact elide_end HP.out HO.out HO'.out HG.out)
theorem elide_end0 {w : World} {p n : Nat} {v : Value} {xs : List Value} (hp : OptAt w p v) (ho : w.ownsRow (p + 1) 9 1 v n xs) :
    Elided w p n xs (.returned .nilIface) (w.drew.setCell ⟨p, 9, none⟩ v) :=
  ⟨rfl, v, (OptAt.set (w := w.drew) hp v), own_set (w := w.drew) ho, ((Below.refl p w).drew).setCell (Nat.le_refl _) _⟩
set_option maxHeartbeats 1000000 in
set_option maxRecDepth 100000 in
theorem el_nil (w : World) (p t : Nat) (v : Value) (n : Nat) (xs : List Value) (hp : OptAt w p v) (ht : w.heap[t]? = some (.cells #[.slice none 0 0] 36 (0, 0)))
    (hown : w.ownsRow (p + 1) 9 1 v n xs) :
    Calls Tryz.prog 11 #[.pointer (some ⟨p, 0, none⟩), .pointer (some ⟨t, 0, none⟩)] w fun e w' => Elided w p n xs e w' := by
  obtain ⟨i0, hi, hz0, hz1, hz2⟩ := info_parts info9
  obtain ⟨vo, vc, rfl⟩ := own_slice hown
  have c9 := hp.cell
  have f9 := hp.free
  have tc : w.cell? ⟨t, 0, none⟩ = some (.slice none 0 0) := cell_of_one ht
  have HP := Lib.hid hp
  have HO : Hid (w.drew.ownsRow (p + 1) 9 1 (.slice vo n vc) n xs) := hown
  clear hp ht hown
  go_enter Tryz.func11, Tryz.ntmps11
  go_wp2
  go_region_law (refine step_append_nil rfl (.tmp 8) (.tmp 9) 36 rfl (p + 1) 9 i0 1 Tryz.underlying36 hi (.slice vo n vc) n xs (by simp [Act.eval]) HO.out (by simp [Act.eval]) ?_)
  all_goals (go_wp2; go_ret; exact elide_end0 HP.out HO.out)
/-- The slice of n strings: nil, or at an address where n > 0 strings lie. -/
def StrsV (w : World) (v : Value) (n : Nat) (S : Nat → ByteArray) : Prop := (v = .slice none 0 0 ∧ n = 0) ∨ ∃ a c, v = .slice (some a) n c ∧ ∀ i, i < n → w.cell? (a.add i) = some (.string (S i))
theorem elided_up {w w2 : World} {o : Obj} {p n : Nat} {xs : List Value} (hlt : p < w.heap.size) (h : ∃ v', OptAt w2 p v' ∧ w2.ownsRow (p + 1) 9 1 v' n xs ∧ Below p (w.alloc o) w2) : Elided w p n xs (.returned .nilIface) w2 := by
  obtain ⟨v', h1, h2, h3⟩ := h
  exact ⟨rfl, v', h1, h2, ((Below.refl p w).alloc (by omega) o).trans h3⟩
set_option maxRecDepth 100000 in
theorem apply_any (w : World) (p : Nat) (v sv : Value) (n : Nat) (xs : List Value) (m : Nat) (S : Nat → ByteArray) (hp : OptAt w p v)
    (hown : w.ownsRow (p + 1) 9 1 v n xs) (hS : StrsV w sv m S) (hb : n + m ≤ 4194304) :
    Calls Tryz.prog 8 #[.pointer (some ⟨p, 0, none⟩), sv] w fun e w' => Elided w p (n + m) (xs ++ news m S) e w' := by
  have hlt := lt_of_block hp
  have HP := Lib.hid hp
  have HO := Lib.hid hown
  have HB := Lib.hid hb
  rcases hS with ⟨rfl, rfl⟩ | ⟨a, c, rfl, hS⟩
  · clear hp hown hb
    have e0 : n + 0 = n := rfl
    have e1 : xs ++ news 0 S = xs := List.append_nil xs
    rw [e0, e1]
    go_enter Tryz.func8, Tryz.ntmps8
    go_wp2_with (first | (go_at_call 11; go_loud (refine (el_nil (w.alloc (.cells #[.slice none 0 0] 36)) p w.heap.size v n xs ?_ ?_ ?_).mono ?_; exact (heap_alloc_old _ _ hlt).trans HP.out; exact heap_alloc_new _ _; exact HO.out.alloc _; rintro e w2 ⟨rfl, hE⟩; have HE := Lib.hid hE; clear hE)) | go_in)
    go_ret
    exact elided_up hlt HE.out
  · have HS := Lib.hid hS
    clear hp hown hS hb
    go_enter Tryz.func8, Tryz.ntmps8
    go_wp2_with (first | (go_at_call 11; go_loud (refine (el_some (w.alloc (.cells #[.slice (some a) m c] 36)) p w.heap.size v n xs a m c S ?_ ?_ ?_ ?_ ?_).mono ?_; exact (heap_alloc_old _ _ hlt).trans HP.out; exact heap_alloc_new _ _; exact HO.out.alloc _; exact fun i hi => cell_later ((Below.refl _ w).alloc (Nat.le_refl _) _) (HS.out i hi); exact HB.out; rintro e w2 ⟨rfl, hE⟩; have HE := Lib.hid hE; clear hE)) | go_in)
    go_ret
    exact elided_up hlt HE.out
theorem new_any (w : World) : Calls Tryz.prog 7 #[] w fun e w' => e = .returned (.pointer (some ⟨w.heap.size, 0, none⟩)) ∧ OptAt w' w.heap.size (.slice none 0 0) ∧ Below w.heap.size w w' := by
  go_enter Tryz.func7, Tryz.ntmps7
  go_wp2
  go_ret
  exact ⟨rfl, heap_alloc_new _ _, (Below.refl _ w).alloc (Nat.le_refl _) _⟩
theorem optOf (w : World) (p : Nat) (v : Value) (h : OptAt w p v) : Calls Tryz.prog 9 #[.pointer (some ⟨p, 0, none⟩)] w fun e w' => e = .returned v ∧ w = w' := by
  have c9 := h.cell
  clear h
  go_enter Tryz.func9, Tryz.ntmps9
  go_wp2
  go_ret
  exact ⟨rfl, rfl⟩
/-- What cloneStrings gives. -/
def Cloned (w : World) (n : Nat) (S : Nat → ByteArray) (e : Ending) (w' : World) : Prop := ∃ v, e = .returned v ∧ ((v = .slice none 0 0 ∧ n = 0) ∨ (v = .slice (some ⟨w.heap.size, 0, none⟩) n n ∧ w'.rowIs w.heap.size 9 n (fun i => .string (S i)))) ∧ Below w.heap.size w w'
def Copying (w wr : World) (n k : Nat) (S : Nat → ByteArray) : Prop := wr.rowIs w.heap.size 9 n (fun i => if i < k then .string (S i) else .string ⟨#[]⟩) ∧ Below w.heap.size w wr
theorem copying_start (w : World) (n : Nat) (S : Nat → ByteArray) : Copying w (w.alloc (.cells (madeCells #[.string ⟨#[]⟩] n) 9)) n 0 S :=
  ⟨(World.rowIs_made w _ n 9).congr (fun i _ => by simp), (Below.refl _ w).alloc (Nat.le_refl _) _⟩
theorem copying_step {w wr : World} {n k : Nat} {S : Nat → ByteArray} (h : Copying w wr n k S) : Copying w (wr.setCell ⟨w.heap.size, k, none⟩ (.string (S k))) n (k + 1) S := by
  refine ⟨(h.1.set k _).congr (fun i _ => ?_), h.2.setCell (Nat.le_refl _) _⟩
  by_cases hi : i = k
  · subst hi; simp
  · by_cases hl : i < k
    · have : i < k + 1 := by omega
      simp [hi, hl, this]
    · have : ¬ i < k + 1 := by omega
      simp [hi, hl, this]
theorem copying_step' {w wr : World} {n k : Nat} {S : Nat → ByteArray} (h : Copying w wr n k S) : Copying w (wr.drew.setCell ⟨w.heap.size, k, none⟩ (.string (S k))) n (k + 1) S := copying_step (wr := wr.drew) ⟨h.1.drew, h.2.drew⟩
theorem copying_end {w wr : World} {n k : Nat} {S : Nat → ByteArray} (h : Copying w wr n k S) (hk : n ≤ k) : Cloned w n S (.returned (.slice (some ⟨w.heap.size, 0, none⟩) n n)) wr :=
  ⟨_, rfl, Or.inr ⟨rfl, h.1.congr (fun i hi => by have : i < k := by omega
                                                  simp [this])⟩, h.2⟩
theorem clone_nil (w : World) (S : Nat → ByteArray) : Calls Tryz.prog 6 #[.slice none 0 0] w fun e w' => Cloned w 0 S e w' := by
  have hq := fun (w : World) => Lib.run_eql_slice_nil (P := Tryz.prog) w 36 9 none 0 0 0 0 Tryz.underlying36
  go_enter Tryz.func6, Tryz.ntmps6
  go_wp2
  go_ret
  exact ⟨_, rfl, Or.inl ⟨rfl, rfl⟩, Below.refl _ _⟩
set_option maxRecDepth 100000 in
theorem clone_some (w : World) (a : Addr) (n cap : Nat) (S : Nat → ByteArray) (h : StrsIn w (some a) n S) (hn : n ≤ 1048576) : Calls Tryz.prog 6 #[.slice (some a) n cap] w fun e w' => Cloned w n S e w' := by
  have hq := fun (w : World) => Lib.run_eql_slice_nil (P := Tryz.prog) w 36 9 (some a) n cap 0 0 Tryz.underlying36
  have hm := run_make_row' (P := Tryz.prog) 36 9 (.string ⟨#[]⟩) 16 Tryz.underlying36 info9 rfl .i64 .i64 n (by omega) (by omega)
  have H := Lib.hid h
  clear h
  go_enter Tryz.func6, Tryz.ntmps6
  go_wp2
  go_loopw [4] (fun i wr => ∃ k : Nat, k ≤ n ∧ i = .int .i64 k ∧ Hid (Copying w wr n k S)) (fun i _ => n - (intOf i).toNat)
  case atStart => exact ⟨0, Nat.zero_le _, rfl, copying_start w n S⟩
  case round =>
    obtain ⟨k, hk, rfl, HC⟩ := hrel
    by_cases hkn : k < n
    · obtain ⟨b, off, ha, hb, hc⟩ := H.out (by omega)
      have ha' : a = ⟨b, off, none⟩ := by simpa using ha
      subst ha'
      have hcr : wr.cell? ⟨b, off + k, none⟩ = some (.string (S k)) := (HC.out.2.cell hb).trans (hc k hkn)
      have hc2 := HC.out.1.cell hkn
      have hf2 := HC.out.1.frozen k
      have hbb : ¬ b = w.heap.size := by omega
      clear hc ha
      go_wp2
      go_roundw
      case rel => exact ⟨k + 1, by omega, by go_num, by first | exact copying_step HC.out | exact copying_step' HC.out⟩
      case measure => simp [intOf]; omega
    · go_wp2
      go_ret
      exact copying_end HC.out (by omega)
/-- What an argument is opened to: a slice of n strings, nil or not. -/
def ArgIn (w : World) (v : Value) (n : Nat) (S : Nat → ByteArray) : Prop := ∃ ao cap, v = .slice ao n cap ∧ (ao = none → n = 0 ∧ cap = 0) ∧ StrsIn w ao n S
theorem clone_any (w : World) (v : Value) (n : Nat) (S : Nat → ByteArray) (h : ArgIn w v n S) (hn : n ≤ 1048576) : Calls Tryz.prog 6 #[v] w fun e w' => Cloned w n S e w' := by
  obtain ⟨ao, cap, rfl, h0, h⟩ := h
  cases ao with
  | none =>
    obtain ⟨rfl, rfl⟩ := h0 rfl
    exact clone_nil w S
  | some a => exact clone_some w a n cap S h hn
end Go.Proofs.YtpllgkakfempeaaGreat
