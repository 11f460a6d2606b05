/- buildEBNF at a sequence: the texts of its parts, single spaces between; in parentheses where it is no root and has two parts or more. The seat's flags: -reflectrows -leanrows (see REPORT.md, TRANSLATOR). -/
import Derived.Test.YtfmlfaankmnfjaaGreatFmtEc
import Derived.LoopTactic
namespace Go.Proofs.YtfmlfaankmnfjaaGreatFmt
open Go.RowKit
/-- The text of a sequence's parts, single spaces between. -/
def seqTxt : List ByteArray → ByteArray
  | [] => ⟨#[]⟩
  | [t] => t
  | t :: u :: ts => t ++ (⟨#[32]⟩ ++ seqTxt (u :: ts))
/-- A linked list of nodes, each printing its text; each next node is the older one (so the block's number falls: the loop's measure). -/
def SeqOf (B : Nat) (W : World) : List ByteArray → Option Addr → Prop
  | [], q => q = none
  | t :: ts, q => ∃ (b : Nat) (h : Bool) (v : Value) (nx : Option Addr), q = some ⟨b, 0, none⟩ ∧ b < B ∧ W.heap[b]? = some (.cells #[.bool h, v, .pointer nx] 63 (0, 0)) ∧ Pr B W false v t ∧ (∀ a, nx = some a → a.block < b) ∧ SeqOf B W ts nx
theorem SeqOf.mono {B B' : Nat} {W W' : World} (hb : Below B W W') (hB : B ≤ B') : ∀ {ts : List ByteArray} {q : Option Addr}, SeqOf B W ts q → SeqOf B' W' ts q
  | [], _, h => h
  | _ :: _, _, ⟨b, h, v, nx, h1, h2, h3, h4, h5, h6⟩ => ⟨b, h, v, nx, h1, Nat.lt_of_lt_of_le h2 hB, (hb.block b h2).trans h3, h4.mono hb hB, h5, SeqOf.mono hb hB h6⟩
def seqLeft : Value → Nat
  | .pointer (some a) => a.block + 1
  | _ => 0
def SeqIn (B : Nat) (W w wr : World) (p : Nat) (name tot : ByteArray) (ts : List ByteArray) (q : Option Addr) : Prop :=
  SeqOf B W ts q ∧ ∃ s, OutAt wr p name s ∧ s ++ seqTxt ts = tot ∧ Below p w wr
theorem seqin_last {B : Nat} {W w wr w2 : World} {p : Nat} {name tot s t : ByteArray} (ho : OutAt w2 p name (s ++ t)) (he : s ++ seqTxt [t] = tot) (hb : Below p w wr) (hb2 : Below p wr w2) : SeqIn B W w w2 p name tot [] none :=
  ⟨rfl, s ++ t, ho, by rw [← he]; exact ByteArray.ext (by simp [ByteArray.data_append, seqTxt]), hb.trans hb2⟩
theorem seqin_more {B : Nat} {W w wr w2 : World} {p : Nat} {name tot s t u : ByteArray} {us : List ByteArray} {nx : Option Addr} (hq : SeqOf B W (u :: us) nx) (ho : OutAt w2 p name (s ++ t)) (he : s ++ seqTxt (t :: u :: us) = tot) (hb : Below p w wr) (hb2 : Below p wr w2) :
    SeqIn B W w (w2.setCell ⟨p, 1, none⟩ (.string (s ++ t ++ ⟨#[32]⟩))) p name tot (u :: us) nx :=
  ⟨hq, s ++ t ++ ⟨#[32]⟩, ho.set _, by rw [← he]; exact ByteArray.ext (by simp [ByteArray.data_append, seqTxt, Array.append_assoc]), (hb.trans hb2).setCell (Nat.le_refl _) _⟩
theorem seq_room {s t tot : ByteArray} {ts : List ByteArray} (he : s ++ seqTxt (t :: ts) = tot) (ht : tot.size ≤ 1099511627776) : s.size + t.size ≤ 1099511627776 ∧ ¬ ((s ++ t).size + (⟨#[32]⟩ : ByteArray).size > 9223372036854775807) := by
  have h1 : (⟨#[32]⟩ : ByteArray).size = 1 := rfl
  have h2 : (s ++ seqTxt (t :: ts)).size = tot.size := congrArg _ he
  rw [ByteArray.size_append] at h2
  have h3 : t.size ≤ (seqTxt (t :: ts)).size := by
    cases ts with
    | nil => exact Nat.le_refl _
    | cons u us =>
      show t.size ≤ (t ++ (⟨#[32]⟩ ++ seqTxt (u :: us))).size
      rw [ByteArray.size_append]; omega
  rw [ByteArray.size_append]
  omega
set_option maxHeartbeats 4000000 in
set_option maxRecDepth 100000 in
theorem pr_seq_root (B : Nat) (W : World) (ts : List ByteArray) (q : Option Addr) (hne : ts ≠ []) (hq : SeqOf B W ts q) :
    Pr B W true (.iface 46 (.pointer q)) (seqTxt ts) := by
  intro w p name s0 mv ov hb hpB hp hsz
  have hs : Hid (SeqIn B W w w p name (s0 ++ seqTxt ts) ts q) := ⟨hq, s0, hp, rfl, Below.refl _ _⟩
  have HT : Hid ((s0 ++ seqTxt ts).size ≤ 1099511627776) := by rw [ByteArray.size_append]; exact hsz
  obtain ⟨tot, htot⟩ : ∃ tot, tot = s0 ++ seqTxt ts := ⟨_, rfl⟩
  rw [← htot] at hs HT
  have HTOT := Lib.hid htot
  have HW := Lib.hid hb
  have HBp := Lib.hid hpB
  obtain ⟨t0, ts0, rfl⟩ := List.exists_cons_of_ne_nil hne
  obtain ⟨b0, h0, v0, nx0, rfl, hb0, hh0, -, hnx0, -⟩ := hq
  have hh1 : w.heap[b0]? = _ := (hb.block b0 hb0).trans hh0
  have c2 : w.cell? ⟨b0, 2, none⟩ = some (.pointer nx0) := by simp [World.cell?, hh1]
  clear hh1 hh0 hb0 hnx0 hne htot hp hsz hb hpB
  go_enter Tryz.func28, Tryz.ntmps28
  go_wp2_with fail
  all_goals (
    go_loopw [21] (fun n wr => ∃ (ts : List ByteArray) (q : Option Addr), n = .pointer q ∧ Hid (SeqIn B W w wr p name tot ts q)) (fun n _ => seqLeft n)
    case atStart => exact ⟨_, _, rfl, hs⟩
    case round =>
      obtain ⟨ts, q, rfl, HS⟩ := hrel
      cases ts with
      | nil =>
        obtain ⟨hq0, s, hos, hes, hbs⟩ := HS.out
        obtain rfl : q = none := hq0
        have HE : Hid (OutAt wr p name tot ∧ Below p w wr) := ⟨by rw [← hes]; have e : s ++ seqTxt [] = s := ByteArray.ext (by simp [ByteArray.data_append, seqTxt])
                                                                  rw [e]; exact hos, hbs⟩
        clear hos hes hbs HS
        go_wp2_with fail
        go_end0
        exact ⟨rfl, by rw [← HTOT.out]; exact HE.out.1, HE.out.2⟩
      | cons t ts =>
        obtain ⟨⟨b, h, v, nx, hq0, hbB, hbh, hP, hnx, hrest⟩, s, hos, hes, hbs⟩ := HS.out
        subst hq0
        have hbw : wr.heap[b]? = _ := ((HW.out.trans (hbs.mono HBp.out)).block b hbB).trans hbh
        have d1 : wr.cell? ⟨b, 1, none⟩ = some v := by simp [World.cell?, hbw]
        have d2 : wr.cell? ⟨b, 2, none⟩ = some (.pointer nx) := by simp [World.cell?, hbw]
        have hbp : b < p := Nat.lt_of_lt_of_le hbB HBp.out
        have HR := Lib.hid (seq_room hes HT.out)
        have HOS := Lib.hid hos
        have HES := Lib.hid hes
        have HBS := Lib.hid hbs
        have HP := Lib.hid hP
        have HNX := Lib.hid hnx
        have HWR : Hid (Below B W wr) := HW.out.trans (hbs.mono HBp.out)
        cases ts with
        | nil =>
          obtain rfl : nx = none := hrest
          clear hbw hbh hP hnx hos hes hbs hbB HS
          go_wp2_with (go_at_call 28; go_loud (refine (HP.out _ p name s mv ov ?_ HBp.out ?_ HR.out.1).mono ?_; (first | exact HWR.out | exact bstep HWR.out); (first | exact HOS.out | exact ostep HOS.out); rintro e w2 ⟨rfl, hp2, hb2⟩; have q2 : w2.cell? ⟨b, 2, none⟩ = some (.pointer none) := (hb2.cell (p := ⟨b, 2, none⟩) hbp).trans d2; have H2 := Lib.hid hp2; have HB2 := Lib.hid hb2; clear hp2 hb2))
          go_roundw
          case rel => exact ⟨[], none, rfl, seqin_last H2.out HES.out HBS.out HB2.out⟩
          case measure => simp [seqLeft]
        | cons u us =>
          obtain ⟨b', h', v', nx', hq', hrest'⟩ := hrest
          subst hq'
          have HQ : Hid (SeqOf B W (u :: us) (some ⟨b', 0, none⟩)) := ⟨b', h', v', nx', rfl, hrest'⟩
          clear hbw hbh hP hnx hrest' hos hes hbs hbB HS
          have HN := HR.out.2
          go_wp2_with (go_at_call 28; go_loud (refine (HP.out _ p name s mv ov ?_ HBp.out ?_ HR.out.1).mono ?_; (first | exact HWR.out | exact bstep HWR.out); (first | exact HOS.out | exact ostep HOS.out); rintro e w2 ⟨rfl, hp2, hb2⟩; have q2 : w2.cell? ⟨b, 2, none⟩ = some (.pointer (some ⟨b', 0, none⟩)) := (hb2.cell (p := ⟨b, 2, none⟩) hbp).trans d2; have q1 := hp2.cell; have f1 := hp2.free; have H2 := Lib.hid hp2; have HB2 := Lib.hid hb2; clear hp2 hb2))
          go_roundw
          case rel => exact ⟨u :: us, some ⟨b', 0, none⟩, rfl, seqin_more HQ.out H2.out HES.out HBS.out HB2.out⟩
          case measure => have := HNX.out _ rfl; simp [seqLeft]; exact this)
/-- A sequence of two parts or more that is no root: in parentheses. -/
def parTxt (ts : List ByteArray) : ByteArray := ⟨#[40]⟩ ++ (seqTxt ts ++ ⟨#[41]⟩)
theorem par_end {w wr : World} {p : Nat} {name tot s0 : ByteArray} {ts : List ByteArray} (he : tot = s0 ++ ⟨#[40]⟩ ++ seqTxt ts) (ho : OutAt wr p name tot) (hb : Below p w wr) :
    OutAt (wr.setCell ⟨p, 1, none⟩ (.string (tot ++ ⟨#[41]⟩))) p name (s0 ++ parTxt ts) ∧ Below p w (wr.setCell ⟨p, 1, none⟩ (.string (tot ++ ⟨#[41]⟩))) := by
  have e : s0 ++ parTxt ts = tot ++ ⟨#[41]⟩ := by rw [he]; exact ByteArray.ext (by simp [ByteArray.data_append, parTxt])
  rw [e]
  exact ⟨ho.set _, hb.setCell (Nat.le_refl _) _⟩
set_option maxHeartbeats 4000000 in
set_option maxRecDepth 100000 in
theorem pr_seq_par (B : Nat) (W : World) (t0 t1 : ByteArray) (ts1 : List ByteArray) (q : Option Addr) (hq : SeqOf B W (t0 :: t1 :: ts1) q) :
    Pr B W false (.iface 46 (.pointer q)) (parTxt (t0 :: t1 :: ts1)) := by
  intro w p name s0 mv ov hb hpB hp hsz
  have hs : Hid (SeqIn B W w (w.setCell ⟨p, 1, none⟩ (.string (s0 ++ ⟨#[40]⟩))) p name (s0 ++ ⟨#[40]⟩ ++ seqTxt (t0 :: t1 :: ts1)) (t0 :: t1 :: ts1) q) := ⟨hq, _, hp.set _, rfl, (Below.refl p w).setCell (Nat.le_refl p) _⟩
  have hz : (⟨#[40]⟩ : ByteArray).size = 1 := rfl
  have hz2 : (⟨#[41]⟩ : ByteArray).size = 1 := rfl
  rw [parTxt, ByteArray.size_append, ByteArray.size_append] at hsz
  have HT : Hid ((s0 ++ ⟨#[40]⟩ ++ seqTxt (t0 :: t1 :: ts1)).size ≤ 1099511627776) := by rw [ByteArray.size_append, ByteArray.size_append]; exact (by omega : s0.size + (⟨#[40]⟩ : ByteArray).size + (seqTxt (t0 :: t1 :: ts1)).size ≤ 1099511627776)
  have HC0 : ¬ (s0.size + (⟨#[40]⟩ : ByteArray).size > 9223372036854775807) := by omega
  have q1 := hp.cell
  have f1 := hp.free
  obtain ⟨tot, htot⟩ : ∃ tot, tot = s0 ++ ⟨#[40]⟩ ++ seqTxt (t0 :: t1 :: ts1) := ⟨_, rfl⟩
  rw [← htot] at hs HT
  have HTOT := Lib.hid htot
  have HCE : ¬ (tot.size + (⟨#[41]⟩ : ByteArray).size > 9223372036854775807) := by have h : tot.size ≤ 1099511627776 := HT; omega
  have HW := Lib.hid hb
  have HBp := Lib.hid hpB
  obtain ⟨b0, h0, v0, nx0, rfl, hb0, hh0, -, hnx0, b1, h1, v1, nx1, rfl, hrest0⟩ := hq
  have hh1 : w.heap[b0]? = _ := (hb.block b0 hb0).trans hh0
  have c2 : w.cell? ⟨b0, 2, none⟩ = some (.pointer (some ⟨b1, 0, none⟩)) := by simp [World.cell?, hh1]
  clear hh1 hh0 hb0 hnx0 hrest0 htot hp hsz hb hpB hz hz2
  go_enter Tryz.func28, Tryz.ntmps28
  go_wp2_with fail
  all_goals (
    go_loopw [21] (fun n wr => ∃ (ts : List ByteArray) (q : Option Addr), n = .pointer q ∧ Hid (SeqIn B W w wr p name tot ts q)) (fun n _ => seqLeft n)
    case atStart => exact ⟨_, _, rfl, hs⟩
    case round =>
      obtain ⟨ts, q, rfl, HS⟩ := hrel
      cases ts with
      | nil =>
        obtain ⟨hq0, s, hos, hes, hbs⟩ := HS.out
        obtain rfl : q = none := hq0
        have HE : Hid (OutAt wr p name tot ∧ Below p w wr) := ⟨by rw [← hes]; have e : s ++ seqTxt [] = s := ByteArray.ext (by simp [ByteArray.data_append, seqTxt])
                                                                  rw [e]; exact hos, hbs⟩
        clear hos hes hbs HS
        have q9 := HE.out.1.cell
        have f9 := HE.out.1.free
        go_wp2_with fail
        go_end0
        exact ⟨rfl, par_end HTOT.out HE.out.1 HE.out.2⟩
      | cons t ts =>
        obtain ⟨⟨b, h, v, nx, hq0, hbB, hbh, hP, hnx, hrest⟩, s, hos, hes, hbs⟩ := HS.out
        subst hq0
        have hbw : wr.heap[b]? = _ := ((HW.out.trans (hbs.mono HBp.out)).block b hbB).trans hbh
        have d1 : wr.cell? ⟨b, 1, none⟩ = some v := by simp [World.cell?, hbw]
        have d2 : wr.cell? ⟨b, 2, none⟩ = some (.pointer nx) := by simp [World.cell?, hbw]
        have hbp : b < p := Nat.lt_of_lt_of_le hbB HBp.out
        have HR := Lib.hid (seq_room hes HT.out)
        have HOS := Lib.hid hos
        have HES := Lib.hid hes
        have HBS := Lib.hid hbs
        have HP := Lib.hid hP
        have HNX := Lib.hid hnx
        have HWR : Hid (Below B W wr) := HW.out.trans (hbs.mono HBp.out)
        cases ts with
        | nil =>
          obtain rfl : nx = none := hrest
          clear hbw hbh hP hnx hos hes hbs hbB HS
          go_wp2_with (go_at_call 28; go_loud (refine (HP.out _ p name s mv ov ?_ HBp.out ?_ HR.out.1).mono ?_; (first | exact HWR.out | exact bstep HWR.out); (first | exact HOS.out | exact ostep HOS.out); rintro e w2 ⟨rfl, hp2, hb2⟩; have q2 : w2.cell? ⟨b, 2, none⟩ = some (.pointer none) := (hb2.cell (p := ⟨b, 2, none⟩) hbp).trans d2; have H2 := Lib.hid hp2; have HB2 := Lib.hid hb2; clear hp2 hb2))
          go_roundw
          case rel => exact ⟨[], none, rfl, seqin_last H2.out HES.out HBS.out HB2.out⟩
          case measure => simp [seqLeft]
        | cons u us =>
          obtain ⟨b', h', v', nx', hq', hrest'⟩ := hrest
          subst hq'
          have HQ : Hid (SeqOf B W (u :: us) (some ⟨b', 0, none⟩)) := ⟨b', h', v', nx', rfl, hrest'⟩
          clear hbw hbh hP hnx hrest' hos hes hbs hbB HS
          have HN := HR.out.2
          go_wp2_with (go_at_call 28; go_loud (refine (HP.out _ p name s mv ov ?_ HBp.out ?_ HR.out.1).mono ?_; (first | exact HWR.out | exact bstep HWR.out); (first | exact HOS.out | exact ostep HOS.out); rintro e w2 ⟨rfl, hp2, hb2⟩; have q2 : w2.cell? ⟨b, 2, none⟩ = some (.pointer (some ⟨b', 0, none⟩)) := (hb2.cell (p := ⟨b, 2, none⟩) hbp).trans d2; have q1 := hp2.cell; have f1 := hp2.free; have H2 := Lib.hid hp2; have HB2 := Lib.hid hb2; clear hp2 hb2))
          go_roundw
          case rel => exact ⟨u :: us, some ⟨b', 0, none⟩, rfl, seqin_more HQ.out H2.out HES.out HBS.out HB2.out⟩
          case measure => have := HNX.out _ rfl; simp [seqLeft]; exact this)
end Go.Proofs.YtfmlfaankmnfjaaGreatFmt
