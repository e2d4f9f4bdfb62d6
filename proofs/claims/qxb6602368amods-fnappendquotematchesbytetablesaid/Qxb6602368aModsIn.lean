import Derived.Test.Qxb6602368aModsBytes
import Derived.ProofKit
import Derived.OpenShut
namespace Go.Proofs.Qxb6602368aMods.By
open Go.ChangeShapes Go.WideShapes Go.ChangeAt Go.RowKit

/-- WHAT THE WALK IS TOLD OF A SLICE OF INTEGERS THAT CAME IN: it is nil; or it leads to a row of 'cap' cells, the numbers 'zs' (the first 'len' are its elements, the rest its spare room), each fitting its kind. -/
def IsRow (k : IntKind) (w : World) (a : Option Addr) (len cap : Nat) (zs : List Int) : Prop :=
  (a = none ∧ len = 0 ∧ cap = 0 ∧ zs = []) ∨
  ∃ x, a = some x ∧ len ≤ cap ∧ cap ≤ maxLen ∧ zs.length = cap ∧ (∀ i, i < zs.length → w.cell? (x.add i) = some (.int k (zs.getD i 0))) ∧ ∀ n ∈ zs, (Lit.int k n).wf = true

/-- .. as a list of bytes -/
theorem row_bytes {w : World} {a : Option Addr} {len cap : Nat} {zs : List Int} (h : IsRow .u8 w a len cap zs) :
    ∃ L : List UInt8, L.length = len ∧ len ≤ maxLen ∧ (a = none → len = 0) ∧ Reads w w.heap.size a L := by
  rcases h with ⟨rfl, rfl, rfl, rfl⟩ | ⟨x, rfl, hl, hm, hz, hc, hw⟩
  · exact ⟨[], rfl, Nat.zero_le _, fun _ => rfl, fun h => absurd h (Nat.lt_irrefl 0)⟩
  · have hlen : ((zs.take len).map fun z => UInt8.ofNat z.toNat).length = len := by simp; omega
    refine ⟨(zs.take len).map fun z => UInt8.ofNat z.toNat, hlen, by omega, fun h => (by cases h), fun h0 => ?_⟩
    rw [hlen] at h0
    obtain ⟨b, off, spot⟩ := x
    have hspot : spot = none := by simpa [Addr.add] using World.cell?_spot (hc 0 (by omega))
    subst hspot
    refine ⟨b, off, rfl, block_lt_of_cell (hc 0 (by omega)), fun j hj => ?_⟩
    rw [hlen] at hj
    have hj' : j < zs.length := by omega
    have h1 := hc j hj'
    rw [add_plain] at h1
    rw [h1]
    have hb := bounds_u8 (hw (zs[j]) (List.getElem_mem hj'))
    have e1 : zs.getD j 0 = zs[j] := by rw [List.getD_eq_getElem?_getD, List.getElem?_eq_getElem hj']; rfl
    have e2 : ((zs.take len).map fun z => UInt8.ofNat z.toNat).getD j 0 = UInt8.ofNat zs[j].toNat := by
      rw [List.getD_eq_getElem?_getD, List.getElem?_map, List.getElem?_take_of_lt hj, List.getElem?_eq_getElem hj']; rfl
    rw [e1, e2]
    unfold u8v
    have e3 : (UInt8.ofNat zs[j].toNat).toNat = zs[j].toNat := by
      rw [UInt8.toNat_ofNat']
      omega
    rw [e3, Int.toNat_of_nonneg hb.1]
end Go.Proofs.Qxb6602368aMods.By
