import Derived.Test.Qxb6602626aModsRows
import Derived.WalkKit
import Derived.ProofKit
import Derived.OpenShut
import Derived.ShutString
import Derived.ChangeOld
import Derived.Below
import Derived.Maps.OwnSet
import Derived.Test.Qxb6602626aModsFill
namespace Go.Proofs.Qxb6602626aMods.Ss
open Go.ChangeShapes Go.WideShapes Go.ChangeAt Go.RowKit
open Go.Maps

theorem own : ownKnob Trym.prog.godebug = none := by kernel_rfl
theorem laidOut : laidOutB Trym.prog = true := by kernel_rfl
theorem cells9 : Trym.prog.cellsOf 9 = 1 := by kernel_rfl
theorem zero4 (w : World) : (zeroValue 4).run Trym.prog w = .ok (.bool false) w := by kernel_rfl
theorem law : Keyed Trym.prog 9 := string_keyed Trym.underlying9

/-- A SLICE OF STRINGS THAT CAME IN, as the walks are told of it. -/
theorem strs_in {H : Type} {enc : TypeId × Value → H} {W : World} {fuel : Nat} {a : Option Addr} {len cap : Nat} {x : DataW H × List MemPlace}
    (h : DataW.trod enc Trym.prog W 0 (fun _ => true) true fuel 22 [.slice a len cap] = some x) :
    ∃ ss : Nat → ByteArray, len ≤ maxLen ∧ (∀ j, j < len → (ss j).size ≤ maxLen) ∧ Reads W W.heap.size a len ss := by
  rcases open_strings Trym.underlying22 Trym.underlying9 cells9 h with ⟨hcs, _⟩ | ⟨ad, l, c, ss, hcs, _, hl, hm, hz, _, hcell, hws⟩
  · simp at hcs
    obtain ⟨rfl, rfl, rfl⟩ := hcs
    exact ⟨fun _ => ByteArray.empty, by unfold maxLen; omega, fun j hj => by omega, fun hn => by omega⟩
  · simp at hcs
    obtain ⟨rfl, rfl, rfl⟩ := hcs
    simp only [if_true] at hz
    refine ⟨fun j => ss.getD j ByteArray.empty, by omega, fun j hj => ?_, fun hn => ?_⟩
    · have hj' : j < ss.length := by omega
      simp only [List.getD_eq_getElem?_getD, List.getElem?_eq_getElem hj', Option.getD_some]
      exact hws _ (List.getElem_mem hj')
    · obtain ⟨b, off, spot⟩ := ad
      have hspot : spot = none := by simpa [Addr.add] using World.cell?_spot (hcell 0 (by omega))
      subst hspot
      have h0 := hcell 0 (by omega)
      refine ⟨b, off, rfl, ?_, fun j hj => by have := hcell j (by omega); rw [add_plain] at this; exact this⟩
      exact block_lt_of_cell h0

end Go.Proofs.Qxb6602626aMods.Ss
