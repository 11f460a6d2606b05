/- The parts of buildEBNF as contracts over one text block. The seat's flags: -reflectrows -leanrows (see REPORT.md, TRANSLATOR). -/
import Derived.Test.YtfmlfaankmnfjaaGreatFmtShelf
import Derived.Test.YtfmlfaankmnfjaaGreatFmtEta
import Derived.Deep.RegionWith
import Derived.BigRegion
import Derived.Lib.Hide
import Derived.OneCell
import Derived.Lib.SmallJoins
namespace Go.Proofs.YtfmlfaankmnfjaaGreatFmt
open Go.RowKit
def OutAt (w : World) (p : Nat) (name s : ByteArray) : Prop := w.heap[p]? = some (.cells #[.string name, .string s] 82 (0, 0))
def RefAt (w : World) (r : Nat) (t : Int) (id : ByteArray) : Prop := w.heap[r]? = some (.cells #[.int .i64 t, .string id] 59 (0, 0))
def Pr (B : Nat) (w : World) (root : Bool) (v : Value) (txt : ByteArray) : Prop :=
  ∀ (w1 : World) (p : Nat) (name s0 : ByteArray) (mv ov : Value), Below B w w1 → B ≤ p → OutAt w1 p name s0 → s0.size + txt.size ≤ 1099511627776 →
    Calls Tryz.prog 28 #[.bool root, v, mv, .pointer (some ⟨p, 0, none⟩), ov] w1 fun e w2 => e = .returned (.tuple #[]) ∧ OutAt w2 p name (s0 ++ txt) ∧ Below p w1 w2
theorem OutAt.set {w : World} {p : Nat} {name s0 : ByteArray} (h : OutAt w p name s0) (s1 : ByteArray) : OutAt (w.setCell ⟨p, 1, none⟩ (.string s1)) p name s1 := by
  unfold OutAt at *
  simp [World.setCell, Array.getElem?_modify, h]
theorem OutAt.below {w w' : World} {p N : Nat} {name s0 : ByteArray} (h : OutAt w p name s0) (hb : Below N w w') (hp : p < N) : OutAt w' p name s0 := (hb.block p hp).trans h
theorem lower_any (id : ByteArray) (w : World) (hid : id.size ≤ 4194304) (hascii : ∀ (j : Nat) (b : UInt8), id.data.toList[j]? = some b → b.toNat < 128) :
    Calls Tryz.prog 33 #[.string id] w fun e w' => ∃ L : ByteArray, e = .returned (.string L) ∧ L.size = id.size ∧ Hid (L = ⟨(Lib.toLowerA id.data.toList).toArray⟩) ∧ Below w.heap.size w w' :=
  (Tryz.strings_ToLower_ascii id w (by omega) hascii).mono fun _ _ ⟨h, k⟩ => ⟨_, h, (by show (Lib.toLowerA id.data.toList).toArray.size = id.size; rw [List.size_toArray, Lib.toLowerA, List.length_map]; rfl), rfl, k⟩
def lt1 : ByteArray := ⟨#[60]⟩
def gt1 : ByteArray := ⟨#[62]⟩
def refTxt (id : ByteArray) : ByteArray := (⟨#[60]⟩ ++ ⟨(Lib.toLowerA id.data.toList).toArray⟩) ++ ⟨#[62]⟩
theorem refTxt_size (id : ByteArray) : (refTxt id).size = id.size + 2 := by
  have h1 : (⟨#[60]⟩ : ByteArray).size = 1 := rfl
  have h2 : (⟨#[62]⟩ : ByteArray).size = 1 := rfl
  have h3 : (⟨(Lib.toLowerA id.data.toList).toArray⟩ : ByteArray).size = id.size := by show (Lib.toLowerA id.data.toList).toArray.size = id.size; rw [List.size_toArray, Lib.toLowerA, List.length_map]; rfl
  rw [refTxt, ByteArray.size_append, ByteArray.size_append]; omega
theorem cat1 {n : Nat} {L : ByteArray} (h : L.size = n) (hn : n ≤ 4194304) : ¬ ((⟨#[60]⟩ : ByteArray).size + L.size > 9223372036854775807) := by
  have : (⟨#[60]⟩ : ByteArray).size = 1 := rfl
  omega
theorem cat2 {n : Nat} {L : ByteArray} (h : L.size = n) (hn : n ≤ 4194304) : ¬ (((⟨#[60]⟩ : ByteArray) ++ L).size + (⟨#[62]⟩ : ByteArray).size > 9223372036854775807) := by
  have : (⟨#[60]⟩ : ByteArray).size = 1 := rfl
  have : (⟨#[62]⟩ : ByteArray).size = 1 := rfl
  rw [ByteArray.size_append]; omega
theorem cat3 {n : Nat} {L s0 : ByteArray} (h : L.size = n) (hn : n ≤ 4194304) (h0 : s0.size ≤ 1099511627776) : ¬ (s0.size + (((⟨#[60]⟩ : ByteArray) ++ L) ++ (⟨#[62]⟩ : ByteArray)).size > 9223372036854775807) := by
  have : (⟨#[60]⟩ : ByteArray).size = 1 := rfl
  have : (⟨#[62]⟩ : ByteArray).size = 1 := rfl
  rw [ByteArray.size_append, ByteArray.size_append]; omega
theorem ref_end {p : Nat} {w w1 : World} {id name s0 L : ByteArray} (hw : p < w.heap.size) (HP : Hid (OutAt w p name s0)) (HL : Hid (L = ⟨(Lib.toLowerA id.data.toList).toArray⟩)) (HB : Hid (Below w.drew.heap.size w.drew w1)) :
    OutAt (w1.setCell ⟨p, 1, none⟩ (.string (s0 ++ ((⟨#[60]⟩ ++ L) ++ ⟨#[62]⟩)))) p name (s0 ++ refTxt id) ∧ Below p w (w1.setCell ⟨p, 1, none⟩ (.string (s0 ++ ((⟨#[60]⟩ ++ L) ++ ⟨#[62]⟩)))) := by
  have h1 : Below p w w1 := ((Below.refl p w).drew).trans (HB.out.mono (by show p ≤ w.heap.size; omega))
  refine ⟨?_, h1.setCell (Nat.le_refl _) _⟩
  rw [refTxt, ← HL.out]
  exact (OutAt.below (w := w.drew) HP.out HB.out hw).set _
set_option maxHeartbeats 2000000 in
set_option maxRecDepth 100000 in
theorem pr_ref (B : Nat) (W : World) (root : Bool) (r : Nat) (t : Int) (id : ByteArray) (hr : RefAt W r t id) (hrB : r < B) (hid : id.size ≤ 4194304) (hascii : ∀ (j : Nat) (b : UInt8), id.data.toList[j]? = some b → b.toNat < 128) :
    Pr B W root (.iface 44 (.pointer (some ⟨r, 0, none⟩))) (refTxt id) := by
  intro w p name s0 mv ov hb hpB hp hsz
  have r1 : w.cell? ⟨r, 1, none⟩ = some (.string id) := by
    have : w.heap[r]? = _ := (hb.block r hrB).trans hr
    simp [World.cell?, this]
  have p1 : w.cell? ⟨p, 1, none⟩ = some (.string s0) := by unfold OutAt at hp; simp [World.cell?, hp]
  have f1 : w.frozen? ⟨p, 1, none⟩ = false := by unfold OutAt at hp; simp [World.frozen?, hp]
  have hlt := lt_of_block hp
  have hs0 : s0.size ≤ 1099511627776 := by omega
  have HA := Lib.hid hascii
  have HP := Lib.hid hp
  have HS := Lib.hid hsz
  clear hascii hr hp hb hrB hsz hpB
  go_enter Tryz.func28, Tryz.ntmps28
  go_wp2_with fail
  go_region_with (go_at_call 33; go_loud (refine (lower_any id _ hid HA.out).mono ?_; rintro e w1 ⟨L, rfl, hL, HL, hb⟩; have k1 := cat1 hL hid; have k2 := cat2 hL hid; have k3 := cat3 hL hid hs0; have q1 : w1.cell? ⟨p, 1, none⟩ = some (.string s0) := (hb.cell (p := ⟨p, 1, none⟩) hlt).trans p1; have g1 : w1.frozen? ⟨p, 1, none⟩ = false := (hb.frozen (p := ⟨p, 1, none⟩) hlt).trans f1; have HB := Lib.hid hb; clear hb))
  all_goals (go_wp2_with fail; go_end0; exact ⟨rfl, ref_end hlt HP HL HB⟩)
end Go.Proofs.YtfmlfaankmnfjaaGreatFmt
