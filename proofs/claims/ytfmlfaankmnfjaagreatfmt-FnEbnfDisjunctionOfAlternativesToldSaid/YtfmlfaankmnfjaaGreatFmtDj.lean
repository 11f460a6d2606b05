/- buildEBNF at a disjunction (root: no parentheses). The seat's flags: -reflectrows -leanrows (see REPORT.md, TRANSLATOR). -/
import Derived.Test.YtfmlfaankmnfjaaGreatFmtEc
import Derived.LoopTactic
namespace Go.Proofs.YtfmlfaankmnfjaaGreatFmt
open Go.RowKit
def bar : ByteArray := ⟨#[32, 124, 32]⟩
/-- The texts of the alternatives, ' | ' between. -/
def altTxt : List ByteArray → ByteArray
  | [] => ⟨#[]⟩
  | [t] => t
  | t :: u :: ts => t ++ (⟨#[32, 124, 32]⟩ ++ altTxt (u :: ts))
theorem altTxt_snoc (t : ByteArray) : ∀ ts : List ByteArray, ts ≠ [] → altTxt (ts ++ [t]) = altTxt ts ++ ⟨#[32, 124, 32]⟩ ++ t
  | [], h => absurd rfl h
  | [u], _ => by show u ++ (⟨#[32, 124, 32]⟩ ++ t) = u ++ ⟨#[32, 124, 32]⟩ ++ t; exact ByteArray.ext (by simp [ByteArray.data_append, Array.append_assoc])
  | u :: v :: ts, _ => by
    have h := altTxt_snoc t (v :: ts) (by simp)
    show u ++ (⟨#[32, 124, 32]⟩ ++ altTxt (v :: ts ++ [t])) = u ++ (⟨#[32, 124, 32]⟩ ++ altTxt (v :: ts)) ++ ⟨#[32, 124, 32]⟩ ++ t
    rw [h]
    exact ByteArray.ext (by simp [ByteArray.data_append, Array.append_assoc])
theorem take_one (ts : List ByteArray) (k : Nat) (hk : k < ts.length) : ts.take (k + 1) = ts.take k ++ [ts.getD k ⟨#[]⟩] := by
  rw [List.take_add_one]
  simp [hk]
theorem alt_first (ts : List ByteArray) (h : 0 < ts.length) : altTxt (ts.take 1) = ts.getD 0 ⟨#[]⟩ := by
  rw [take_one ts 0 h]; rfl
theorem alt_next (ts : List ByteArray) (k : Nat) (hk : k < ts.length) (h0 : k ≠ 0) : altTxt (ts.take (k + 1)) = altTxt (ts.take k) ++ ⟨#[32, 124, 32]⟩ ++ ts.getD k ⟨#[]⟩ := by
  rw [take_one ts k hk, altTxt_snoc]
  intro h
  have h2 := congrArg List.length h
  rw [List.length_take] at h2
  have h3 : min k ts.length = 0 := h2
  omega
theorem alt_le (ts : List ByteArray) : ∀ k, k ≤ ts.length → (altTxt (ts.take k)).size ≤ (altTxt ts).size := by
  intro k hk
  obtain ⟨d, hd⟩ : ∃ d, ts.length = k + d := ⟨ts.length - k, by omega⟩
  induction d generalizing k with
  | zero => rw [List.take_of_length_le (by omega)]; exact Nat.le_refl _
  | succ d ih =>
    refine Nat.le_trans ?_ (ih (k + 1) (by omega) (by omega))
    by_cases h0 : k = 0
    · subst h0; exact Nat.zero_le _
    · rw [alt_next ts k (by omega) h0, ByteArray.size_append, ByteArray.size_append]; omega
/-- A disjunction whose alternatives print their texts. -/
def DisjAt (B : Nat) (W : World) (ts : List ByteArray) (q : Option Addr) : Prop :=
  ∃ (b g c : Nat) (vs : Nat → Value), q = some ⟨b, 0, none⟩ ∧ b < B ∧ g < B ∧ W.cell? ⟨b, 0, none⟩ = some (.slice (some ⟨g, 0, none⟩) ts.length c) ∧
    ∀ i, i < ts.length → W.cell? ⟨g, i, none⟩ = some (vs i) ∧ Pr B W false (vs i) (ts.getD i ⟨#[]⟩)
def AltIn (w wr : World) (p : Nat) (name s0 : ByteArray) (ts : List ByteArray) (k : Nat) : Prop := OutAt wr p name (s0 ++ altTxt (ts.take k)) ∧ Below p w wr
theorem altin_start {w : World} {p : Nat} {name s0 : ByteArray} {ts : List ByteArray} (hp : OutAt w p name s0) : AltIn w w p name s0 ts 0 := by
  have e : s0 ++ altTxt (ts.take 0) = s0 := ByteArray.ext (by simp [ByteArray.data_append, altTxt])
  refine ⟨?_, Below.refl _ _⟩
  rw [e]
  exact hp
theorem altin_end {w wr : World} {p : Nat} {name s0 : ByteArray} {ts : List ByteArray} {k : Nat} (h : AltIn w wr p name s0 ts k) (hk : ts.length ≤ k) : OutAt wr p name (s0 ++ altTxt ts) ∧ Below p w wr := by
  have h1 := h.1
  rw [List.take_of_length_le hk] at h1
  exact ⟨h1, h.2⟩
theorem altin_first {w wr w2 : World} {p : Nat} {name s0 : ByteArray} {ts : List ByteArray} (h : AltIn w wr p name s0 ts 0) (hl : 0 < ts.length) (ho : OutAt w2 p name (s0 ++ altTxt (ts.take 0) ++ ts.getD 0 ⟨#[]⟩)) (hb : Below p wr w2) : AltIn w w2 p name s0 ts 1 := by
  refine ⟨?_, h.2.trans hb⟩
  rw [alt_first ts hl]
  have e : s0 ++ altTxt (ts.take 0) ++ ts.getD 0 ⟨#[]⟩ = s0 ++ ts.getD 0 ⟨#[]⟩ := ByteArray.ext (by simp [ByteArray.data_append, altTxt])
  rw [← e]
  exact ho
theorem altin_next {w wr w2 : World} {p : Nat} {name s0 : ByteArray} {ts : List ByteArray} {k : Nat} (h : AltIn w wr p name s0 ts k) (hk : k < ts.length) (h0 : k ≠ 0)
    (ho : OutAt w2 p name (s0 ++ altTxt (ts.take k) ++ ⟨#[32, 124, 32]⟩ ++ ts.getD k ⟨#[]⟩)) (hb : Below p wr w2) : AltIn w w2 p name s0 ts (k + 1) := by
  refine ⟨?_, h.2.trans hb⟩
  rw [alt_next ts k hk h0]
  have e : s0 ++ (altTxt (ts.take k) ++ ⟨#[32, 124, 32]⟩ ++ ts.getD k ⟨#[]⟩) = s0 ++ altTxt (ts.take k) ++ ⟨#[32, 124, 32]⟩ ++ ts.getD k ⟨#[]⟩ := ByteArray.ext (by simp [ByteArray.data_append, Array.append_assoc])
  rw [e]
  exact ho
theorem alt_room {s0 : ByteArray} {ts : List ByteArray} {k : Nat} (hk : k < ts.length) (hs : s0.size + (altTxt ts).size ≤ 1099511627776) :
    (k = 0 → (s0 ++ altTxt (ts.take k)).size + (ts.getD k ⟨#[]⟩).size ≤ 1099511627776) ∧ (k ≠ 0 → (s0 ++ altTxt (ts.take k) ++ ⟨#[32, 124, 32]⟩).size + (ts.getD k ⟨#[]⟩).size ≤ 1099511627776) := by
  have h := alt_le ts (k + 1) (by omega)
  refine ⟨fun h0 => ?_, fun h0 => ?_⟩
  · subst h0
    rw [alt_first ts hk] at h
    have e : (altTxt (ts.take 0)).size = 0 := rfl
    rw [ByteArray.size_append]
    omega
  · rw [alt_next ts k hk h0, ByteArray.size_append, ByteArray.size_append] at h
    rw [ByteArray.size_append, ByteArray.size_append]
    omega
theorem alt_small {a b : ByteArray} {m : Nat} (h : (a ++ b).size + m ≤ 1099511627776) : ¬ (a.size + b.size > 9223372036854775807) := by
  rw [ByteArray.size_append] at h
  omega
set_option maxHeartbeats 4000000 in
set_option maxRecDepth 100000 in
theorem pr_disj (B : Nat) (W : World) (ts : List ByteArray) (q : Option Addr) (hN : ts.length ≤ 4194304) (hq : DisjAt B W ts q) :
    Pr B W true (.iface 41 (.pointer q)) (altTxt ts) := by
  intro w p name s0 mv ov hb hpB hp hsz
  obtain ⟨b, g, c, vs, rfl, hbB, hgB, hbh, hall⟩ := hq
  have c0 : w.cell? ⟨b, 0, none⟩ = some (.slice (some ⟨g, 0, none⟩) ts.length c) := (hb.cell (p := ⟨b, 0, none⟩) hbB).trans hbh
  have HALL := Lib.hid hall
  have HS := Lib.hid hsz
  have HW := Lib.hid hb
  have HBp := Lib.hid hpB
  have HG : Hid (g < B) := hgB
  have hst : Hid (AltIn w w p name s0 ts 0) := altin_start hp
  clear hall hsz hb hpB hbB hgB hbh hp
  go_enter Tryz.func28, Tryz.ntmps28
  go_wp2_with fail
  go_loopw [59] (fun i wr => ∃ k : Nat, k ≤ ts.length ∧ i = .int .i64 k ∧ Hid (AltIn w wr p name s0 ts k)) (fun i _ => ts.length - (intOf i).toNat)
  case atStart => exact ⟨0, Nat.zero_le _, rfl, hst⟩
  case round =>
    obtain ⟨k, hk, rfl, HA⟩ := hrel
    by_cases hkn : k < ts.length
    · have hwr : Below B W wr := HW.out.trans (HA.out.2.mono HBp.out)
      obtain ⟨hcell, hP⟩ := HALL.out k hkn
      have d1 : wr.cell? ⟨g, k, none⟩ = some (vs k) := (hwr.cell (p := ⟨g, k, none⟩) HG.out).trans hcell
      have HWR := Lib.hid hwr
      have HP := Lib.hid hP
      have HR := Lib.hid (alt_room hkn HS.out)
      have q1 := HA.out.1.cell
      have f1 := HA.out.1.free
      clear hwr hcell hP
      by_cases h0 : k = 0
      · subst h0
        go_wp2_with (go_at_call 28; go_loud (refine (HP.out _ p name (s0 ++ altTxt (ts.take 0)) mv ov ?_ HBp.out ?_ (HR.out.1 rfl)).mono ?_; (first | exact HWR.out | exact bstep HWR.out); (first | exact HA.out.1 | exact ostep HA.out.1); rintro e w2 ⟨rfl, hp2, hb2⟩; have H2 := Lib.hid hp2; have HB2 := Lib.hid hb2; clear hp2 hb2))
        go_roundw
        case rel => exact ⟨1, by omega, by go_num, altin_first HA.out hkn H2.out HB2.out⟩
        case measure => simp [intOf]; omega
      · have k1 := alt_small (HR.out.2 h0)
        have HO2 : Hid (OutAt (wr.setCell ⟨p, 1, none⟩ (.string (s0 ++ altTxt (ts.take k) ++ ⟨#[32, 124, 32]⟩))) p name (s0 ++ altTxt (ts.take k) ++ ⟨#[32, 124, 32]⟩)) := HA.out.1.set _
        have HW2 : Hid (Below B W (wr.setCell ⟨p, 1, none⟩ (.string (s0 ++ altTxt (ts.take k) ++ ⟨#[32, 124, 32]⟩)))) := HWR.out.setCell HBp.out _
        have hpos : (0 : Int) < (k : Int) := by omega
        go_wp2_with (go_at_call 28; go_loud (refine (HP.out _ p name (s0 ++ altTxt (ts.take k) ++ ⟨#[32, 124, 32]⟩) mv ov ?_ HBp.out ?_ (HR.out.2 h0)).mono ?_; (first | exact HW2.out | exact bstep HW2.out); (first | exact HO2.out | exact ostep HO2.out); rintro e w2 ⟨rfl, hp2, hb2⟩; have H2 := Lib.hid hp2; have HB2 := Lib.hid hb2; clear hp2 hb2))
        go_roundw
        case rel => exact ⟨k + 1, by omega, by go_num, altin_next HA.out hkn h0 H2.out (((Below.refl p wr).setCell (Nat.le_refl p) _).trans HB2.out)⟩
        case measure => simp [intOf]; omega
    · have HE := Lib.hid (altin_end HA.out (by omega))
      go_wp2_with fail
      go_end0
      exact ⟨rfl, HE.out.1, HE.out.2⟩
end Go.Proofs.YtfmlfaankmnfjaaGreatFmt
