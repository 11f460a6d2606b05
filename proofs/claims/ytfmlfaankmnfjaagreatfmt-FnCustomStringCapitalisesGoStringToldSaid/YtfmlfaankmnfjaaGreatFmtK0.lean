/- What the calls of package reflect that a custom node's String makes answer (the model's own entries), and buildEBNF at the three custom nodes: the type's name, its first letter upper-cased. Conditions: the dump is cut with -reflectrows -leanrows. -/
import Derived.Test.YtfmlfaankmnfjaaGreatFmtShelfU
import Derived.Test.YtfmlfaankmnfjaaGreatFmtEta
import Derived.WalkKit
import Derived.WalkSpells
import Derived.ProofKit
import Derived.Outline
import Derived.Laws.Externs
import Derived.Handy
import Derived.Deep.RegionWith
import Derived.BigRegion
import Derived.Lib.Hide
import Derived.OneCell
import Derived.Lib.SmallJoins
namespace Go.Proofs.YtfmlfaankmnfjaaGreatFmt
open Go.RowKit
theorem cx_typeOf (t : TypeId) (x : Value) (w : World) : (callFunc 31 #[.iface t x]).run Tryz.prog w = .ok (.value (.iface 137 (.pointer (some ⟨4, t, none⟩)))) w := by kernel_rfl
theorem cnil_elem (t : Nat) (w : World) : (nilAhead 879 137 (.pointer (some ⟨4, t, none⟩)) "Elem").run Tryz.prog w = .ok (some false) w := by kernel_rfl
theorem cmethod_elem (t : Nat) (w : World) : (method 879 137 (.pointer (some ⟨4, t, none⟩)) "Elem").run Tryz.prog w = .ok (255, .pointer (some ⟨4, t, none⟩)) w := by kernel_rfl
theorem cnil_name (t : Nat) (w : World) : (nilAhead 879 137 (.pointer (some ⟨4, t, none⟩)) "Name").run Tryz.prog w = .ok (some false) w := by kernel_rfl
theorem cmethod_name (t : Nat) (w : World) : (method 879 137 (.pointer (some ⟨4, t, none⟩)) "Name").run Tryz.prog w = .ok (272, .pointer (some ⟨4, t, none⟩)) w := by kernel_rfl
def OutAt (w : World) (p : Nat) (name s : ByteArray) : Prop := w.heap[p]? = some (.cells #[.string name, .string s] 82 (0, 0))
def Pr (B : Nat) (w : World) (root : Bool) (v : Value) (txt : ByteArray) : Prop :=
  ∀ (w1 : World) (p : Nat) (name s0 : ByteArray) (mv ov : Value), Below B w w1 → B ≤ p → OutAt w1 p name s0 → s0.size + txt.size ≤ 1099511627776 →
    Calls Tryz.prog 28 #[.bool root, v, mv, .pointer (some ⟨p, 0, none⟩), ov] w1 fun e w2 => e = .returned (.tuple #[]) ∧ OutAt w2 p name (s0 ++ txt) ∧ Below p w1 w2
theorem OutAt.set {w : World} {p : Nat} {name s0 : ByteArray} (h : OutAt w p name s0) (s1 : ByteArray) : OutAt (w.setCell ⟨p, 1, none⟩ (.string s1)) p name s1 := by
  unfold OutAt at *
  simp [World.setCell, Array.getElem?_modify, h]
theorem OutAt.cell {w : World} {p : Nat} {name s0 : ByteArray} (h : OutAt w p name s0) : w.cell? ⟨p, 1, none⟩ = some (.string s0) := by unfold OutAt at h; simp [World.cell?, h]
theorem OutAt.free {w : World} {p : Nat} {name s0 : ByteArray} (h : OutAt w p name s0) : w.frozen? ⟨p, 1, none⟩ = false := by unfold OutAt at h; simp [World.frozen?, h]
theorem OutAt.below {w w' : World} {p N : Nat} {name s0 : ByteArray} (h : OutAt w p name s0) (hb : Below N w w') (hp : p < N) : OutAt w' p name s0 := (hb.block p hp).trans h
theorem celem58 (w : World) : (callFunc 255 #[.pointer (some ⟨4, 87, none⟩)]).run Tryz.prog w = .ok (.value (.iface 137 (.pointer (some ⟨4, 69, none⟩)))) w := by kernel_rfl
theorem cname42 (w : World) : (callFunc 272 #[.pointer (some ⟨4, 69, none⟩)]).run Tryz.prog w = .ok (.value (.string ⟨#[122, 122, 73, 102, 97, 99, 101]⟩)) w := by kernel_rfl
theorem up0 (w : World) : Calls Tryz.prog 32 #[.string ((⟨#[122, 122, 73, 102, 97, 99, 101]⟩ : ByteArray).extract 0 1)] w fun e w' => e = .returned (.string ⟨#[90]⟩) ∧ Below w.heap.size w w' :=
  (Tryz.strings_ToUpper_ascii ((⟨#[122, 122, 73, 102, 97, 99, 101]⟩ : ByteArray).extract 0 1) w (by decide) (fun j b h => by
    have h2 : b ∈ ((⟨#[122, 122, 73, 102, 97, 99, 101]⟩ : ByteArray).extract 0 1).data.toList := List.mem_of_getElem? h
    have h3 : ∀ x ∈ ((⟨#[122, 122, 73, 102, 97, 99, 101]⟩ : ByteArray).extract 0 1).data.toList, x.toNat < 128 := by decide
    exact h3 b h2)).mono fun _ _ ⟨h, k⟩ => ⟨h, k⟩
theorem celem66 (w : World) : (callFunc 255 #[.pointer (some ⟨4, 94, none⟩)]).run Tryz.prog w = .ok (.value (.iface 137 (.pointer (some ⟨4, 71, none⟩)))) w := by kernel_rfl
theorem cname45 (w : World) : (callFunc 272 #[.pointer (some ⟨4, 71, none⟩)]).run Tryz.prog w = .ok (.value (.string ⟨#[80, 97, 114, 115, 101, 97, 98, 108, 101]⟩)) w := by kernel_rfl
theorem up1 (w : World) : Calls Tryz.prog 32 #[.string ((⟨#[80, 97, 114, 115, 101, 97, 98, 108, 101]⟩ : ByteArray).extract 0 1)] w fun e w' => e = .returned (.string ⟨#[80]⟩) ∧ Below w.heap.size w w' :=
  (Tryz.strings_ToUpper_ascii ((⟨#[80, 97, 114, 115, 101, 97, 98, 108, 101]⟩ : ByteArray).extract 0 1) w (by decide) (fun j b h => by
    have h2 : b ∈ ((⟨#[80, 97, 114, 115, 101, 97, 98, 108, 101]⟩ : ByteArray).extract 0 1).data.toList := List.mem_of_getElem? h
    have h3 : ∀ x ∈ ((⟨#[80, 97, 114, 115, 101, 97, 98, 108, 101]⟩ : ByteArray).extract 0 1).data.toList, x.toNat < 128 := by decide
    exact h3 b h2)).mono fun _ _ ⟨h, k⟩ => ⟨h, k⟩
theorem celem67 (w : World) : (callFunc 255 #[.pointer (some ⟨4, 95, none⟩)]).run Tryz.prog w = .ok (.value (.iface 137 (.pointer (some ⟨4, 73, none⟩)))) w := by kernel_rfl
theorem cname47 (w : World) : (callFunc 272 #[.pointer (some ⟨4, 73, none⟩)]).run Tryz.prog w = .ok (.value (.string ⟨#[122, 122, 83, 104, 97, 112, 101]⟩)) w := by kernel_rfl
theorem up2 (w : World) : Calls Tryz.prog 32 #[.string ((⟨#[122, 122, 83, 104, 97, 112, 101]⟩ : ByteArray).extract 0 1)] w fun e w' => e = .returned (.string ⟨#[90]⟩) ∧ Below w.heap.size w w' :=
  (Tryz.strings_ToUpper_ascii ((⟨#[122, 122, 83, 104, 97, 112, 101]⟩ : ByteArray).extract 0 1) w (by decide) (fun j b h => by
    have h2 : b ∈ ((⟨#[122, 122, 83, 104, 97, 112, 101]⟩ : ByteArray).extract 0 1).data.toList := List.mem_of_getElem? h
    have h3 : ∀ x ∈ ((⟨#[122, 122, 83, 104, 97, 112, 101]⟩ : ByteArray).extract 0 1).data.toList, x.toNat < 128 := by decide
    exact h3 b h2)).mono fun _ _ ⟨h, k⟩ => ⟨h, k⟩
end Go.Proofs.YtfmlfaankmnfjaaGreatFmt
