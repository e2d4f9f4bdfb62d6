import Derived.Test.Qxb6602368aModsRows
import Derived.WalkKit
import Derived.WalkSpells
import Derived.WalkLawsBesides
import Derived.LoopTactic
import Derived.Deep.QuietTactic
import Derived.BigQuiet
import Derived.Laws.CopyOwn
import Derived.Lib.AppendStr
namespace Go.Proofs.Qxb6602368aMods.By
open Go.RowKit

/-- a byte as a cell; a list of bytes as cells -/
def u8v (c : UInt8) : Value := .int .u8 c.toNat
def bs (l : List UInt8) : List Value := l.map u8v

theorem bs_length (l : List UInt8) : (bs l).length = l.length := by simp [bs]
theorem bs_append (l m : List UInt8) : bs (l ++ m) = bs l ++ bs m := by simp [bs]
theorem bs_get (l : List UInt8) (j : Nat) (h : j < l.length) : (bs l)[j]? = some (u8v (l.getD j 0)) := by
  simp [bs, h]
theorem bs_one (l : List UInt8) : ∀ v ∈ bs l, v.oneCell' = true := by
  intro v hv
  simp only [bs, List.mem_map] at hv
  obtain ⟨c, _, rfl⟩ := hv
  rfl
theorem strCells_bs (s : ByteArray) : Lib.strCells s = bs s.data.toList := rfl

/-- THE SLICE (address a) READS AS THE BYTES l, in a block below B. -/
def Reads (w : World) (B : Nat) (a : Option Addr) (l : List UInt8) : Prop :=
  0 < l.length → ∃ b off, a = some ⟨b, off, none⟩ ∧ b < B ∧ ∀ j, j < l.length → w.cell? ⟨b, off + j, none⟩ = some (u8v (l.getD j 0))

theorem Reads.below {w w' : World} {B B' : Nat} {a : Option Addr} {l : List UInt8} (h : Reads w B a l) (hb : Below B' w w') (hB : B ≤ B') : Reads w' B a l := fun hn => by
  obtain ⟨b, off, ha, hlt, hc⟩ := h hn
  exact ⟨b, off, ha, hlt, fun j hj => (hb.cell (p := ⟨b, off + j, none⟩) (by show b < B'; omega)).trans (hc j hj)⟩

theorem sizes5 : (Trym.prog.info? 5).map (·.size) = some 1 := by kernel_rfl
theorem info5 : (Trym.prog.info? 5).map (fun i => (i.zero, i.size, i.bytes)) = some (some (.int .u8 0), 1, 1) := by kernel_rfl

theorem ret_bool {a b : Bool} (h : a = b) : Ending.returned (.bool a) = .returned (.bool b) := by rw [h]
theorem ret_int {k : IntKind} {a b : Int} (h : a = b) : Ending.returned (.int k a) = .returned (.int k b) := by rw [h]

theorem row_of_owns {w : World} {base B n : Nat} {xs : List Value} (h : w.ownsRow base 5 1 (.slice (some ⟨B, 0, none⟩) n n) n xs) : ∃ cur : List Value, w.heap[B]? = some (.cells cur.toArray 5 (0, 0)) ∧ cur.length = n := by
  rcases h.2 with ⟨h', _⟩ | ⟨g, cap, cur, h', _, hg, _, _, hs, _⟩
  · simp at h'
  · simp only [Value.slice.injEq, Option.some.injEq, Addr.mk.injEq, and_true, true_and] at h'
    obtain ⟨rfl, rfl⟩ := h'
    exact ⟨cur.toList, by simpa using hg, by simpa using hs⟩

theorem owns_copied {w : World} {B n base : Nat} {cur : List Value} {l : List UInt8} (h : w.heap[B]? = some (.cells (splice cur 0 (bs l)).toArray 5 (0, 0))) (hc : cur.length = n) (hl : l.length = n) (hn : n ≤ maxLen) (hb : base ≤ B) :
    w.ownsRow base 5 1 (.slice (some ⟨B, 0, none⟩) n n) n (bs l) := by
  have e : splice cur 0 (bs l) = bs l := by
    unfold splice
    rw [List.take_zero, List.nil_append, List.drop_of_length_le (by rw [bs_length]; omega), List.append_nil]
  rw [e] at h
  have hbl := bs_length l
  exact ⟨by omega, .inr ⟨B, n, (bs l).toArray, rfl, hb, h, Nat.le_refl _, hn, by simp; omega, by rw [Nat.mul_one]; exact List.take_of_length_le (by simp; omega)⟩⟩

theorem src_of {w : World} {B : Nat} {ad : Addr} {l : List UInt8} (h : Reads w B (some ad) l) : ∀ j v, (bs l)[j]? = some v → w.cell? (ad.add j) = some v := by
  intro j v hv
  have hj : j < l.length := by
    obtain ⟨h1, _⟩ := List.getElem?_eq_some_iff.1 hv
    rwa [bs_length] at h1
  rw [bs_get l j hj] at hv
  obtain ⟨b, off, e, _, hc⟩ := h (by omega)
  obtain rfl : ad = ⟨b, off, none⟩ := by simpa using e
  rw [← Option.some.inj hv, WideShapes.add_plain]
  exact hc j hj

theorem bs_min (l : List UInt8) {n : Nat} (h : l.length = n) : (bs l).length = Nat.min n n := by rw [bs_length, h]; exact (Nat.min_self n).symm

/-- what a copy is good for -/
structure Cloned (w w' : World) (ao : Option Addr) (n : Nat) (l : List UInt8) : Prop where
  nil : ao = none → n = 0
  reads : Reads w' w'.heap.size ao l
  below : Below w.heap.size w w'

/-- zqClone: a copy of the call's own (nil stays nil). -/
theorem clone (a : Option Addr) (n c : Nat) (l : List UInt8) (w : World) (hl : l.length = n) (hn : n ≤ 1048576) (hnil : a = none → n = 0) (hr : Reads w w.heap.size a l) :
    Calls Trym.prog 10 #[.slice a n c] w fun e w' => ∃ ao, e = .returned (.slice ao n n) ∧ Cloned w w' ao n l := by
  have heq := fun wx => Lib.run_eql_slice_nil (P := Trym.prog) wx 22 5 a n c 0 0 Trym.underlying22
  have HR : Hid (Reads w w.heap.size a l) := hr
  have HL : Hid (l.length = n) := hl
  clear hr hl
  obtain ⟨i0, hi, hz0, hz1, hz2⟩ := info_parts info5
  cases a with
  | none =>
    have h0 := hnil rfl
    subst h0
    go_enter Trym.func10, Trym.ntmps10
    go_wp2
    go_ret
    have : l = [] := List.eq_nil_of_length_eq_zero HL.out
    subst this
    exact ⟨none, rfl, fun _ => rfl, fun h => absurd h (Nat.lt_irrefl 0), Below.refl _ _⟩
  | some ad =>
    go_enter Trym.func10, Trym.ntmps10
    go_wp2_with (at_make; refine wpList_make_full _ rfl _ _ 22 rfl w.heap.size 5 i0 (.int .u8 0) 1 Trym.underlying22 hi hz0 hz1 _ _ _ _ n rfl rfl rfl rfl (by rw [hz2]; omega) (by unfold maxLen; omega) (Nat.le_refl _) ?_)
    intro w1 hown hgrow
    have hbel : Below w.heap.size w w1 := (Below.refl _ _).grown hgrow (Nat.le_refl _) (by simp)
    obtain ⟨cur, hrow, hcl⟩ := row_of_owns hown
    have HROW : Hid (w1.heap[w.heap.size]? = some (.cells cur.toArray 5 (0, 0))) := hrow
    have HSRC : Hid (∀ j v, (bs l)[j]? = some v → w1.cell? (ad.add j) = some v) := src_of (HR.out.below hbel (Nat.le_refl _))
    have HCL : Hid (cur.length = n) := hcl
    clear hown hgrow hrow hcl
    go_wp2_with (refine wpList_copy_splice rfl (.tmp 9) (.tmp 10) 22 22 rfl 5 Trym.underlying22 sizes5 _ _ n n n c rfl rfl w.heap.size 0 cur 5 HROW.out (bs l) (bs_min l HL.out) (fun _ => ⟨rfl, ad, rfl, HSRC.out⟩) (by rw [bs_length, HL.out, HCL.out]; omega) (bs_one _) w.heap.size w hbel (Nat.le_refl _) ?_; intro w3 HROW3 hbel3)
    go_ret
    have how := owns_copied HROW3.out HCL.out HL.out (by unfold maxLen; omega) (Nat.le_refl w.heap.size)
    refine ⟨some ⟨w.heap.size, 0, none⟩, rfl, fun h => (by cases h), fun _ => ⟨w.heap.size, 0, rfl, (how.lt _ rfl).2, fun j hj => by rw [Nat.zero_add, how.cellAt j (by have := HL.out; omega), bs_get l j hj]⟩, hbel3⟩

/-- It hands back some bool. -/
def AnyBool (e : Ending) : Prop := ∃ r : Bool, e = .returned (.bool r)
theorem AnyBool.mk (r : Bool) : AnyBool (.returned (.bool r)) := ⟨r, rfl⟩

theorem zzb9 (a : Option Addr) (n c : Nat) (s : ByteArray) (w : World) (hn : n ≤ maxLen) (hs : s.size ≤ maxLen) :
    Calls Trym.prog 9 #[.slice a n c, .string s] w fun e w' => AnyBool e ∧ w' = w := by
  unfold maxLen at hn hs
  go_enter Trym.func9, Trym.ntmps9
  go_wp2
  all_goals (go_ret; first | exact ⟨AnyBool.mk false, rfl⟩ | exact ⟨AnyBool.mk true, rfl⟩)
theorem zzb14 (a : Option Addr) (n c : Nat) (s : ByteArray) (w : World) (hn : n ≤ maxLen) (hs : s.size ≤ maxLen) :
    Calls Trym.prog 14 #[.slice a n c, .string s] w fun e w' => AnyBool e ∧ w' = w := by
  unfold maxLen at hn hs
  go_enter Trym.func14, Trym.ntmps14
  go_wp2
  all_goals (go_ret; first | exact ⟨AnyBool.mk false, rfl⟩ | exact ⟨AnyBool.mk true, rfl⟩)
theorem zzb18 (a : Option Addr) (n c : Nat) (o : Int) (b : Bool) (w : World) (hn : n ≤ maxLen) :
    Calls Trym.prog 18 #[.slice a n c, .int .i64 o, .bool b] w fun e w' => AnyBool e ∧ w' = w := by
  unfold maxLen at hn
  go_enter Trym.func18, Trym.ntmps18
  go_wp2
  all_goals (go_ret; first | exact ⟨AnyBool.mk false, rfl⟩ | exact ⟨AnyBool.mk true, rfl⟩)
end Go.Proofs.Qxb6602368aMods.By
