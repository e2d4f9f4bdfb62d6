import Derived.Test.Qxb6602626aModsOpen
import Derived.Maps.Views
namespace Go.Proofs.Qxb6602626aMods.Asg
open Go.RowKit Go.Maps Go.WideMaps Go.WideElems Ss

/-- a map literal's entry, for the walk (its run is the update's) -/
theorem wpList_insert_own {H : Type} {P : Program} (w : World) {ops : Array Oper} {rest : List Oper} {o : Oper} {a : Act} {Q : Exit → Act → World → Prop}
    (hg : o.guard = none) (m x v : Operand) (t : TypeId) (hop : o.op = Op.insert t m x v)
    (k e : TypeId) (K : Keyed P k) (ht : P.underlying t = some (.map k e)) (R : Value → Option (DataW H × List MemPlace)) (b n : Nat) (D : DataW H)
    (hm : a.eval m = .map (some b)) (hown : w.ownsMap P k R b n D) (hn : n < maxLen) (key val : Value) (kl : Lit) (hx : a.eval x = key) (hv : a.eval v = val) (hkey : keyOf P k key = some kl)
    (d : DataW H) (ps : List MemPlace) (hval : R val = some (d, ps))
    (hK : ∀ w', w'.ownsMap P k R b (n + 1) (D.put kl d) → w.grownBy w' (some b) → wpList P ops Q rest (a.put o.dst undef) w') :
    wpList P ops Q (o :: rest) a w := by
  refine wpList_plain hg fun K' hK' => ?_
  obtain ⟨w', hrun, r1, r2⟩ := hown.update K ht hn hkey hval
  unfold Oper.wp
  simp [execOp, hop, hm, hx, hv, hrun, Result.andThen]
  exact hK' _ _ (hK w' r1 r2)

theorem bool_inv {H : Type} {P : Program} {e : TypeId} (he : P.underlying e = some .bool) {v : Value} {z : DataW H × List MemPlace} (h : plainElem P e v = some z) : ∃ a, v = .bool a ∧ z = (.lit (.bool a), []) := by
  unfold plainElem at h
  rw [he] at h
  cases v <;> simp at h
  subst h
  exact ⟨_, rfl, rfl⟩

/-- block B is a map[string]bool that reads as D -/
def Own (w : World) (B : Nat) (D : DataW Unit) : Prop := ∃ n, w.ownsMap Trym.prog 9 (plainElem Trym.prog 4) B n D

theorem Own.below {w w' : World} {B B' : Nat} {D : DataW Unit} (h : Own w B D) (hb : Below B' w w') (hB : B < B') : Own w' B D := by
  obtain ⟨n, es, clock, h1, h2, h3, h4⟩ := h
  exact ⟨n, es, clock, (hb.block B hB).trans h1, h2, h3, h4⟩

/-- the look-up, where the datum at the key is known -/
theorem Own.look {w : World} {B : Nat} {D : DataW Unit} {s : ByteArray} {c : Bool} (h : Own w B D) (hs : s.size ≤ maxLen) (hc : D.atKey (.string s.data.toList) (.lit (.bool false)) = .lit (.bool c)) :
    (Instr.lookup 27 (.map (some B)) (.string s) false).run Trym.prog w = .ok (.bool c) w := by
  obtain ⟨n, hn⟩ := h
  obtain ⟨v, ps, hrun, hv⟩ := hn.lookup law Trym.underlying27 (zero4 w) (plainElem_bool Trym.underlying4 false) (keyOf_string_mk Trym.underlying9 hs)
  obtain ⟨a, rfl, ha⟩ := bool_inv Trym.underlying4 hv
  simp only [Prod.mk.injEq] at ha
  rw [hc] at ha
  have : a = c := by simpa using ha.1.symm
  rw [hrun, this]

/-- {fl: b} -/
def one (fl : ByteArray) (b : Bool) : DataW Unit := DataW.put (.map []) (.string fl.data.toList) (.lit (.bool b))

theorem one_at (fl s : ByteArray) (b : Bool) : (one fl b).atKey (.string s.data.toList) (.lit (.bool false)) = .lit (.bool (decide (s = fl) && b)) := by
  unfold one
  by_cases h : s = fl
  · subst h
    rw [Maps.atKey_put_same ⟨_, rfl⟩ (show WideAt.IsKeyLit (.string s.data.toList) from trivial), decide_eq_true rfl]; rfl
  · rw [Maps.atKey_put_other (fun e => h (WideShapes.bytes_inj (by simpa using e))), decide_eq_false h]
    rfl

theorem none_at (s : ByteArray) : (DataW.map (H := Unit) []).atKey (.string s.data.toList) (.lit (.bool false)) = .lit (.bool false) := rfl

theorem nil_look {w : World} {s : ByteArray} (hs : s.size ≤ maxLen) : (Instr.lookup 27 (.map none) (.string s) false).run Trym.prog w = .ok (.bool false) w :=
  Maps.look_nil false law Trym.underlying27 (zero4 _) (keyOf_string_mk Trym.underlying9 hs)
end Go.Proofs.Qxb6602626aMods.Asg
