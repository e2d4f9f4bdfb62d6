import Derived.Test.Qxb6602368aModsBytes
import Derived.Test.Qxb6602368aModsQPlain
import Derived.Deep.RegionLaw
namespace Go.Proofs.Qxb6602368aMods.Q
open Go.RowKit By

/-- the cells of a block just laid -/
theorem cells_new {w : World} {t : TypeId} (xs : List Value) : ∀ j u, xs[j]? = some u → (w.alloc (.cells xs.toArray t)).cell? ((⟨w.heap.size, 0, none⟩ : Addr).add j) = some u := by
  intro j u hj
  rw [WideShapes.add_plain, Nat.zero_add, World.cell?_alloc_new]
  simpa using hj

theorem owns_norm {w : World} {base N : Nat} {v : Value} {xs : List Value} {X : List UInt8} (h : w.ownsRow base 5 1 v N xs) (e : xs = bs X) : w.ownsRow base 5 1 v X.length (bs X) := by
  subst e
  have h1 := h.1
  rw [bs_length, Nat.mul_one] at h1
  subst h1
  exact h

theorem owns_low {w : World} {base base' N : Nat} {v : Value} {xs : List Value} (h : w.ownsRow base' 5 1 v N xs) (hb : base ≤ base') : w.ownsRow base 5 1 v N xs := by
  obtain ⟨h1, h2⟩ := h
  refine ⟨h1, ?_⟩
  rcases h2 with h2 | ⟨g, cap, cur, h3, h4, h5⟩
  · exact .inl h2
  · exact .inr ⟨g, cap, cur, h3, by omega, h5⟩

theorem extract_list (s : ByteArray) (a b : Nat) : (s.extract a b).data.toList = (s.data.toList.take b).drop a := by
  rw [ByteArray.data_extract, Array.toList_extract, List.extract_eq_take_drop, List.drop_take]

theorem getD_data (s : ByteArray) (k : Nat) (h : k < s.size) : s.data.toList.getD k 0 = s[k] := by
  have h' : k < s.data.toList.length := by simpa using h
  rw [List.getD_eq_getElem?_getD, List.getElem?_eq_getElem h']
  rfl

/-- append onto a row of the call's own, as one step of a region that draws -/
theorem step_append_own {P : Program} {ops : Array Oper} {o : Oper} {a : Act} (w : World) {K : Act → World → Prop} {Q : Exit → Act → World → Prop} {E : Prop}
    (hg : o.guard = none) (s x : Operand) (t : TypeId) (ho : o.op = .call { callee := .builtin .append, args := #[s, x], argTypes := #[t, t] })
    (base : Nat) (e : TypeId) (i : TypeInfo) (z : Value) (size bytes : Nat) (ht : P.underlying t = some (.slice e)) (hi : P.info? e = some i) (hz : i.zero = some z)
    (hsize : i.size = size) (hby : i.bytes = bytes) (hzs : z.cells.size = size) (hsz : 0 < size)
    (v : Value) (n : Nat) (xs : List Value) (hs : a.eval s = v) (hown : w.ownsRow base e size v n xs)
    (ad : Addr) (m c : Nat) (news : List Value) (hx : a.eval x = .slice (some ad) m c) (hl : news.length = m * size) (hnews : ∀ j u, news[j]? = some u → w.cell? (ad.add j) = some u) (h1 : ∀ u ∈ news, u.oneCell' = true)
    (h63 : n + m ≤ maxLen) (hbytes : (n + m) * bytes ≤ 140737488355328) (hbase : base ≤ w.heap.size)
    (h : ∀ v' w', w'.ownsRow base e size v' (n + m) (xs ++ news) → w.grownBy w' v.ownBlock → K (a.put o.dst v') w') :
    if Region.wanted o (yielded ops a.tmps) = true then Oper.wp P o a w K Q else E := by
  have hw : Region.wanted o (yielded ops a.tmps) = true := by simp [Region.wanted, hg]
  rw [if_pos hw]
  exact wp_append_own w s x t ho base e i z size bytes ht hi hz hsize hby hzs hsz v n xs hs hown ad m c news hx hl hnews h1 h63 hbytes hbase (fun v' w' h2 h3 _ => h v' w' h2 h3)

theorem plain_ge {c : UInt8} (h : plain c) : 32 ≤ (c.toNat : Int) := by have := UInt8.le_iff_toNat_le.1 h.1; simp at this; omega
theorem plain_ne1 {c : UInt8} (h : plain c) : ((c.toNat : Int) != 34) = true := by
  have := h.2.1
  simp only [bne_iff_ne, ne_eq]
  intro e
  exact this (UInt8.toNat_inj.1 (by simp; omega))
theorem plain_ne2 {c : UInt8} (h : plain c) : ((c.toNat : Int) != 92) = true := by
  have := h.2.2
  simp only [bne_iff_ne, ne_eq]
  intro e
  exact this (UInt8.toNat_inj.1 (by simp; omega))
theorem ne_bool {c d : UInt8} (h : ¬ c = d) : ((c.toNat : Int) == (d.toNat : Int)) = false := by
  simp only [beq_eq_false_iff_ne, ne_eq]
  intro e
  exact h (UInt8.toNat_inj.1 (by omega))
abbrev hexS : ByteArray := ⟨#[48, 49, 50, 51, 52, 53, 54, 55, 56, 57, 97, 98, 99, 100, 101, 102]⟩
theorem hex_at : ∀ i : Fin 16, (hexS[i.val]'(by have := i.isLt; exact this)) = hexd (UInt8.ofNat i.val) := by decide
theorem hex_i (i : Nat) (p : i < hexS.size) : hexS[i]'p = hexd (UInt8.ofNat i) := hex_at ⟨i, p⟩
theorem and15 : ∀ m : Fin 32, bits BinOp.and IntKind.u8 (m.val : Int) 15 = ((m.val % 16 : Nat) : Int) := by decide
theorem nibbles {c : UInt8} (h : (c.toNat : Int) < 32) : 0 ≤ (c.toNat : Int) / 16 ∧ (c.toNat : Int) / 16 < 16 ∧ 0 ≤ bits BinOp.and IntKind.u8 (c.toNat : Int) 15 ∧ bits BinOp.and IntKind.u8 (c.toNat : Int) 15 < 16 ∧
    (∀ p, hexS[((c.toNat : Int) / 16).toNat]'p = hexd (c / 16)) ∧ (∀ p, hexS[(bits BinOp.and IntKind.u8 (c.toNat : Int) 15).toNat]'p = hexd (c % 16)) := by
  have hb : bits BinOp.and IntKind.u8 (c.toNat : Int) 15 = ((c.toNat % 16 : Nat) : Int) := and15 ⟨c.toNat, by omega⟩
  have e1 : ((c.toNat : Int) / 16).toNat = (c / 16).toNat := by rw [UInt8.toNat_div]; simp; omega
  have e2 : (bits BinOp.and IntKind.u8 (c.toNat : Int) 15).toNat = (c % 16).toNat := by rw [hb, UInt8.toNat_mod]; simp; omega
  refine ⟨by omega, by omega, by rw [hb]; omega, by rw [hb]; omega, fun p => ?_, fun p => ?_⟩
  · rw [hex_i _ p, e1, UInt8.ofNat_toNat]
  · rw [hex_i _ p, e2, UInt8.ofNat_toNat]
theorem cells_new_drew {w : World} {t : TypeId} (xs : List Value) : ∀ j u, xs[j]? = some u → (w.alloc (.cells xs.toArray t)).drew.cell? ((⟨w.heap.size, 0, none⟩ : Addr).add j) = some u := cells_new xs
theorem escB_of {c d : UInt8} (h : c = d) : escB c = escB d := by rw [h]
theorem mid_next {L X Y E : List UInt8} {s : ByteArray} {sN k : Nat} (h : Mid L X s.data.toList sN k) (hk : k < s.size) (hl : s.data.toList.length = s.size) (hY : X ++ (s.data.toList.take k).drop sN = Y) (hE : escB s[k] = E) : Mid L (Y ++ E) s.data.toList (k + 1) (k + 1) := by
  have := mid_esc h (by rw [hl]; exact hk)
  rw [hY, getD_data s k hk, hE] at this
  exact this
theorem mid_len {L X : List UInt8} {s : ByteArray} {sN k n : Nat} (h : Mid L X s.data.toList sN (k + 1)) (hl : s.data.toList.length = s.size) (hL : L.length = n) : k + 1 ≤ s.size → X.length + (k + 1 - sN) ≤ n + 1 + 6 * s.size := by
  intro hk
  have := mid_length h (by omega)
  omega

set_option maxHeartbeats 4000000 in
theorem quote_any (ao : Option Addr) (n : Nat) (L : List UInt8) (s : ByteArray) (w : World) (hL : L.length = n) (hn : n ≤ 1048576) (hs : s.size ≤ 1048576) (hnone : ao = none → n = 0) (hr : Reads w w.heap.size ao L) :
    Calls Trym.prog 11 #[.slice ao n n, .string s] w fun e w' => ∃ v', e = .returned v' ∧ w'.ownsRow w.heap.size 5 1 v' (L ++ quote s.data.toList).length (bs (L ++ quote s.data.toList)) ∧ Below w.heap.size w w' := by
  obtain ⟨i0, hi, hz0, hz1, hz2⟩ := info_parts info5
  obtain ⟨base, HBASE⟩ : ∃ base, Hid (w.heap.size = base) := ⟨_, rfl⟩
  have hB : base ≤ w.heap.size := Nat.le_of_eq HBASE.out.symm
  have HSRC : Hid (∀ (o : Obj) b, ao = some b → ∀ j u, (bs L)[j]? = some u → (w.alloc o).cell? (b.add j) = some u) := fun o b hb j u hj => by
    subst hb
    exact src_of (hr.below ((Below.refl w.heap.size w).alloc (Nat.le_refl _) o) (Nat.le_refl _)) j u hj
  have HNO : Hid (ao = none → n = 0 ∧ n = 0) := fun h => ⟨hnone h, hnone h⟩
  have HBL : Hid ((bs L).length = n * 1) := by show (bs L).length = n * 1; rw [bs_length, hL, Nat.mul_one]
  clear hr hnone
  go_enter Trym.func11, Trym.ntmps11
  go_wp2_with (at_builtin; refine wpList_append_grows _ rfl (.tmp 8) (.tmp 9) 22 rfl 5 i0 (.int .u8 0) 1 1 Trym.underlying22 hi hz0 hz1 hz2 rfl (by decide) ao n n (bs L) rfl HNO.out HBL.out (HSRC.out _) ⟨w.heap.size, 0, none⟩ 1 1 (bs [34]) rfl rfl (cells_new _) (bs_one _) (by omega) (by unfold maxLen; omega) (by omega) ?_)
  intro v1 w1 hown1 hgrow1
  have HO1 : Hid (w1.ownsRow base 5 1 v1 (L ++ [34]).length (bs (L ++ [34]))) := owns_low (owns_norm hown1 (bs_append _ _).symm) (by first | omega | (simp; omega))
  have hb1 : Below base w w1 := ((Below.refl _ _).alloc hB _).grown hgrow1 (by simp; omega) (fun k hk => by cases hk)
  clear hown1 hgrow1 HSRC HNO HBL
  have HLL : Hid (s.data.toList.length = s.size) := by show s.data.toList.length = s.size; simp
  go_wp2
  go_loopw [0, 5, 6] (fun vv st i wr => ∃ (k sN : Nat) (X : List UInt8), k ≤ s.size ∧ i = .int .i64 k ∧ st = .int .i64 sN ∧ sN ≤ k ∧ X.length + (k - sN) ≤ n + 1 + 6 * s.size ∧ Hid (wr.ownsRow base 5 1 vv X.length (bs X)) ∧ Hid (Mid L X s.data.toList sN k) ∧ Below base w wr) (fun _ _ i _ => s.size - (intOf i).toNat)
  case atStart => exact ⟨0, 0, L ++ [34], Nat.zero_le _, rfl, rfl, Nat.le_refl _, by simp; omega, HO1, mid_start _ _, hb1⟩
  case round =>
    obtain ⟨k, sN, X, hk, rfl, rfl, hsk, hXl, HX, HM, hbr⟩ := hrel
    clear HO1 hb1
    have hszr := hbr.size
    by_cases hlt : k < s.size
    · obtain ⟨Y, HY⟩ : ∃ Y, Hid (X ++ (s.data.toList.take k).drop sN = Y) := ⟨_, rfl⟩
      have hYl : Y.length = X.length + (k - sN) := by rw [← HY.out]; have := HLL.out; simp; omega
      have HYE : Hid (bs X ++ Lib.strCells (s.extract sN k) = bs Y) := by show bs X ++ Lib.strCells (s.extract sN k) = bs Y; rw [← HY.out, bs_append, strCells_bs, extract_list]
      have hsz : (s.extract sN k).size = k - sN := by rw [ByteArray.size_extract]; omega
      have HSZ : Hid (X.length + (s.extract sN k).size ≤ maxLen ∧ X.length + (s.extract sN k).size ≤ 140737488355328) := by rw [hsz]; exact ⟨by unfold maxLen; omega, by omega⟩
      have hYb : Y.length ≤ 7340033 := by omega
      have HSY : Hid (Y.length + 2 ≤ maxLen) := by show Y.length + 2 ≤ maxLen; unfold maxLen; omega
      have HSY6 : Hid (Y.length + 6 ≤ maxLen) := by show Y.length + 6 ≤ maxLen; unfold maxLen; omega
      clear hsz hYl
      by_cases hpl : plain s[k]
      · have HMn : Hid (Mid L X s.data.toList sN (k + 1)) := mid_plain HM.out (by rw [HLL.out]; exact hlt) (by rw [getD_data s k hlt]; exact hpl)
        have hp1 : 32 ≤ (s[k].toNat : Int) := plain_ge hpl
        have hp2 : ((s[k].toNat : Int) != 34) = true := plain_ne1 hpl
        have hp3 : ((s[k].toNat : Int) != 92) = true := plain_ne2 hpl
        have hln := mid_len HMn.out HLL.out hL
        clear hpl HM
        go_wp2_with fail
        go_roundw
        case rel => exact ⟨k + 1, sN, X, by omega, by go_num, rfl, by omega, by omega, HX, HMn, hbr⟩
        case measure => simp [intOf]; omega
      by_cases h34 : s[k] = 34
      · have HE : Hid (escB s[k] = [92, 34]) := by show escB s[k] = [92, 34]; rw [escB_of h34]; rfl
        have hv : (s[k].toNat : Int) = 34 := by rw [h34]; rfl
        have HMn : Hid (Mid L (Y ++ [92, 34]) s.data.toList (k + 1) (k + 1)) := mid_next HM.out hlt HLL.out HY.out HE.out
        have hln := mid_len HMn.out HLL.out hL
        clear h34 HE HM
        go_wp2_with (first | (at_builtin; refine Lib.wpList_append_own_string _ rfl (.tmp 30) (.tmp 34) 22 9 rfl base 5 i0 Trym.underlying22 Trym.underlying9 hi hz0 hz1 hz2 _ _ _ rfl HX.out (s.extract sN k) rfl HSZ.out.1 HSZ.out.2 (by omega) ?_; intro v2 w2 hown2 hgrow2 _; have HX2 : Hid (w2.ownsRow base 5 1 v2 Y.length (bs Y)) := owns_norm hown2 HYE.out; have hb2 : Below base w w2 := hbr.grown hgrow2 (by omega) (fun q hq => (HX.out.lt q hq).1); have hs2 := hb2.size; clear hown2 hgrow2) | (at_builtin; refine wpList_append_own _ rfl (.tmp 49) (.tmp 51) 22 rfl base 5 i0 (.int .u8 0) 1 1 Trym.underlying22 hi hz0 hz1 hz2 rfl (by decide) _ _ _ rfl (HX2.out.alloc _) ⟨w2.heap.size, 0, none⟩ 2 2 (bs [92, 34]) rfl rfl (cells_new _) (bs_one _) HSY.out (by omega) (by simp; omega) ?_; intro v3 w3 hown3 hgrow3 _; have HX3 : Hid (w3.ownsRow base 5 1 v3 (Y ++ [92, 34]).length (bs (Y ++ [92, 34]))) := owns_norm hown3 (bs_append _ _).symm; have hb3 : Below base w w3 := (hb2.alloc (by omega) _).grown hgrow3 (by simp; omega) (fun q hq => (HX2.out.lt q hq).1); clear hown3 hgrow3))
        go_roundw
        case rel => exact ⟨k + 1, k + 1, Y ++ [92, 34], by omega, by go_num, by go_num, Nat.le_refl _, by omega, HX3, HMn, hb3⟩
        case measure => simp [intOf]; omega
      by_cases h92 : s[k] = 92
      · have HE : Hid (escB s[k] = [92, 92]) := by show escB s[k] = [92, 92]; rw [escB_of h92]; rfl
        have hv : (s[k].toNat : Int) = 92 := by rw [h92]; rfl
        have HMn : Hid (Mid L (Y ++ [92, 92]) s.data.toList (k + 1) (k + 1)) := mid_next HM.out hlt HLL.out HY.out HE.out
        have hln := mid_len HMn.out HLL.out hL
        clear h92 HE HM
        go_wp2_with (first | (at_builtin; refine Lib.wpList_append_own_string _ rfl (.tmp 30) (.tmp 34) 22 9 rfl base 5 i0 Trym.underlying22 Trym.underlying9 hi hz0 hz1 hz2 _ _ _ rfl HX.out (s.extract sN k) rfl HSZ.out.1 HSZ.out.2 (by omega) ?_; intro v2 w2 hown2 hgrow2 _; have HX2 : Hid (w2.ownsRow base 5 1 v2 Y.length (bs Y)) := owns_norm hown2 HYE.out; have hb2 : Below base w w2 := hbr.grown hgrow2 (by omega) (fun q hq => (HX.out.lt q hq).1); have hs2 := hb2.size; clear hown2 hgrow2) | (at_builtin; refine wpList_append_own _ rfl (.tmp 49) (.tmp 51) 22 rfl base 5 i0 (.int .u8 0) 1 1 Trym.underlying22 hi hz0 hz1 hz2 rfl (by decide) _ _ _ rfl (HX2.out.alloc _) ⟨w2.heap.size, 0, none⟩ 2 2 (bs [92, 92]) rfl rfl (cells_new _) (bs_one _) HSY.out (by omega) (by simp; omega) ?_; intro v3 w3 hown3 hgrow3 _; have HX3 : Hid (w3.ownsRow base 5 1 v3 (Y ++ [92, 92]).length (bs (Y ++ [92, 92]))) := owns_norm hown3 (bs_append _ _).symm; have hb3 : Below base w w3 := (hb2.alloc (by omega) _).grown hgrow3 (by simp; omega) (fun q hq => (HX2.out.lt q hq).1); clear hown3 hgrow3))
        go_roundw
        case rel => exact ⟨k + 1, k + 1, Y ++ [92, 92], by omega, by go_num, by go_num, Nat.le_refl _, by omega, HX3, HMn, hb3⟩
        case measure => simp [intOf]; omega
      by_cases h10 : s[k] = 10
      · have HE : Hid (escB s[k] = [92, 110]) := by show escB s[k] = [92, 110]; rw [escB_of h10]; rfl
        have hv : (s[k].toNat : Int) = 10 := by rw [h10]; rfl
        have HMn : Hid (Mid L (Y ++ [92, 110]) s.data.toList (k + 1) (k + 1)) := mid_next HM.out hlt HLL.out HY.out HE.out
        have hln := mid_len HMn.out HLL.out hL
        clear h10 HE HM
        go_wp2_with (first | (at_builtin; refine Lib.wpList_append_own_string _ rfl (.tmp 30) (.tmp 34) 22 9 rfl base 5 i0 Trym.underlying22 Trym.underlying9 hi hz0 hz1 hz2 _ _ _ rfl HX.out (s.extract sN k) rfl HSZ.out.1 HSZ.out.2 (by omega) ?_; intro v2 w2 hown2 hgrow2 _; have HX2 : Hid (w2.ownsRow base 5 1 v2 Y.length (bs Y)) := owns_norm hown2 HYE.out; have hb2 : Below base w w2 := hbr.grown hgrow2 (by omega) (fun q hq => (HX.out.lt q hq).1); have hs2 := hb2.size; clear hown2 hgrow2) | (at_builtin; refine Lib.wpList_append_own_string _ rfl (.tmp 55) _ 22 9 rfl base 5 i0 Trym.underlying22 Trym.underlying9 hi hz0 hz1 hz2 _ _ _ rfl HX2.out _ rfl HSY.out (by show Y.length + 2 ≤ _; omega) (by omega) ?_; intro v3 w3 hown3 hgrow3 _; have HX3 : Hid (w3.ownsRow base 5 1 v3 (Y ++ [92, 110]).length (bs (Y ++ [92, 110]))) := owns_norm hown3 (bs_append _ _).symm; have hb3 : Below base w w3 := hb2.grown hgrow3 (by omega) (fun q hq => (HX2.out.lt q hq).1); clear hown3 hgrow3))
        go_roundw
        case rel => exact ⟨k + 1, k + 1, Y ++ [92, 110], by omega, by go_num, by go_num, Nat.le_refl _, by omega, HX3, HMn, hb3⟩
        case measure => simp [intOf]; omega
      by_cases h13 : s[k] = 13
      · have HE : Hid (escB s[k] = [92, 114]) := by show escB s[k] = [92, 114]; rw [escB_of h13]; rfl
        have hv : (s[k].toNat : Int) = 13 := by rw [h13]; rfl
        have HMn : Hid (Mid L (Y ++ [92, 114]) s.data.toList (k + 1) (k + 1)) := mid_next HM.out hlt HLL.out HY.out HE.out
        have hln := mid_len HMn.out HLL.out hL
        clear h13 HE HM
        go_wp2_with (first | (at_builtin; refine Lib.wpList_append_own_string _ rfl (.tmp 30) (.tmp 34) 22 9 rfl base 5 i0 Trym.underlying22 Trym.underlying9 hi hz0 hz1 hz2 _ _ _ rfl HX.out (s.extract sN k) rfl HSZ.out.1 HSZ.out.2 (by omega) ?_; intro v2 w2 hown2 hgrow2 _; have HX2 : Hid (w2.ownsRow base 5 1 v2 Y.length (bs Y)) := owns_norm hown2 HYE.out; have hb2 : Below base w w2 := hbr.grown hgrow2 (by omega) (fun q hq => (HX.out.lt q hq).1); have hs2 := hb2.size; clear hown2 hgrow2) | (at_builtin; refine Lib.wpList_append_own_string _ rfl (.tmp 59) _ 22 9 rfl base 5 i0 Trym.underlying22 Trym.underlying9 hi hz0 hz1 hz2 _ _ _ rfl HX2.out _ rfl HSY.out (by show Y.length + 2 ≤ _; omega) (by omega) ?_; intro v3 w3 hown3 hgrow3 _; have HX3 : Hid (w3.ownsRow base 5 1 v3 (Y ++ [92, 114]).length (bs (Y ++ [92, 114]))) := owns_norm hown3 (bs_append _ _).symm; have hb3 : Below base w w3 := hb2.grown hgrow3 (by omega) (fun q hq => (HX2.out.lt q hq).1); clear hown3 hgrow3))
        go_roundw
        case rel => exact ⟨k + 1, k + 1, Y ++ [92, 114], by omega, by go_num, by go_num, Nat.le_refl _, by omega, HX3, HMn, hb3⟩
        case measure => simp [intOf]; omega
      by_cases h9 : s[k] = 9
      · have HE : Hid (escB s[k] = [92, 116]) := by show escB s[k] = [92, 116]; rw [escB_of h9]; rfl
        have hv : (s[k].toNat : Int) = 9 := by rw [h9]; rfl
        have HMn : Hid (Mid L (Y ++ [92, 116]) s.data.toList (k + 1) (k + 1)) := mid_next HM.out hlt HLL.out HY.out HE.out
        have hln := mid_len HMn.out HLL.out hL
        clear h9 HE HM
        go_wp2_with (first | (at_builtin; refine Lib.wpList_append_own_string _ rfl (.tmp 30) (.tmp 34) 22 9 rfl base 5 i0 Trym.underlying22 Trym.underlying9 hi hz0 hz1 hz2 _ _ _ rfl HX.out (s.extract sN k) rfl HSZ.out.1 HSZ.out.2 (by omega) ?_; intro v2 w2 hown2 hgrow2 _; have HX2 : Hid (w2.ownsRow base 5 1 v2 Y.length (bs Y)) := owns_norm hown2 HYE.out; have hb2 : Below base w w2 := hbr.grown hgrow2 (by omega) (fun q hq => (HX.out.lt q hq).1); have hs2 := hb2.size; clear hown2 hgrow2) | (at_builtin; refine Lib.wpList_append_own_string _ rfl (.tmp 63) _ 22 9 rfl base 5 i0 Trym.underlying22 Trym.underlying9 hi hz0 hz1 hz2 _ _ _ rfl HX2.out _ rfl HSY.out (by show Y.length + 2 ≤ _; omega) (by omega) ?_; intro v3 w3 hown3 hgrow3 _; have HX3 : Hid (w3.ownsRow base 5 1 v3 (Y ++ [92, 116]).length (bs (Y ++ [92, 116]))) := owns_norm hown3 (bs_append _ _).symm; have hb3 : Below base w w3 := hb2.grown hgrow3 (by omega) (fun q hq => (HX2.out.lt q hq).1); clear hown3 hgrow3))
        go_roundw
        case rel => exact ⟨k + 1, k + 1, Y ++ [92, 116], by omega, by go_num, by go_num, Nat.le_refl _, by omega, HX3, HMn, hb3⟩
        case measure => simp [intOf]; omega
      by_cases h8 : s[k] = 8
      · have HE : Hid (escB s[k] = [92, 98]) := by show escB s[k] = [92, 98]; rw [escB_of h8]; rfl
        have hv : (s[k].toNat : Int) = 8 := by rw [h8]; rfl
        have HMn : Hid (Mid L (Y ++ [92, 98]) s.data.toList (k + 1) (k + 1)) := mid_next HM.out hlt HLL.out HY.out HE.out
        have hln := mid_len HMn.out HLL.out hL
        clear h8 HE HM
        go_wp2_with (first | (at_builtin; refine Lib.wpList_append_own_string _ rfl (.tmp 30) (.tmp 34) 22 9 rfl base 5 i0 Trym.underlying22 Trym.underlying9 hi hz0 hz1 hz2 _ _ _ rfl HX.out (s.extract sN k) rfl HSZ.out.1 HSZ.out.2 (by omega) ?_; intro v2 w2 hown2 hgrow2 _; have HX2 : Hid (w2.ownsRow base 5 1 v2 Y.length (bs Y)) := owns_norm hown2 HYE.out; have hb2 : Below base w w2 := hbr.grown hgrow2 (by omega) (fun q hq => (HX.out.lt q hq).1); have hs2 := hb2.size; clear hown2 hgrow2) | (at_builtin; refine Lib.wpList_append_own_string _ rfl (.tmp 67) _ 22 9 rfl base 5 i0 Trym.underlying22 Trym.underlying9 hi hz0 hz1 hz2 _ _ _ rfl HX2.out _ rfl HSY.out (by show Y.length + 2 ≤ _; omega) (by omega) ?_; intro v3 w3 hown3 hgrow3 _; have HX3 : Hid (w3.ownsRow base 5 1 v3 (Y ++ [92, 98]).length (bs (Y ++ [92, 98]))) := owns_norm hown3 (bs_append _ _).symm; have hb3 : Below base w w3 := hb2.grown hgrow3 (by omega) (fun q hq => (HX2.out.lt q hq).1); clear hown3 hgrow3))
        go_roundw
        case rel => exact ⟨k + 1, k + 1, Y ++ [92, 98], by omega, by go_num, by go_num, Nat.le_refl _, by omega, HX3, HMn, hb3⟩
        case measure => simp [intOf]; omega
      by_cases h12 : s[k] = 12
      · have HE : Hid (escB s[k] = [92, 102]) := by show escB s[k] = [92, 102]; rw [escB_of h12]; rfl
        have hv : (s[k].toNat : Int) = 12 := by rw [h12]; rfl
        have HMn : Hid (Mid L (Y ++ [92, 102]) s.data.toList (k + 1) (k + 1)) := mid_next HM.out hlt HLL.out HY.out HE.out
        have hln := mid_len HMn.out HLL.out hL
        clear h12 HE HM
        go_wp2_with (first | (at_builtin; refine Lib.wpList_append_own_string _ rfl (.tmp 30) (.tmp 34) 22 9 rfl base 5 i0 Trym.underlying22 Trym.underlying9 hi hz0 hz1 hz2 _ _ _ rfl HX.out (s.extract sN k) rfl HSZ.out.1 HSZ.out.2 (by omega) ?_; intro v2 w2 hown2 hgrow2 _; have HX2 : Hid (w2.ownsRow base 5 1 v2 Y.length (bs Y)) := owns_norm hown2 HYE.out; have hb2 : Below base w w2 := hbr.grown hgrow2 (by omega) (fun q hq => (HX.out.lt q hq).1); have hs2 := hb2.size; clear hown2 hgrow2) | (at_builtin; refine Lib.wpList_append_own_string _ rfl (.tmp 71) _ 22 9 rfl base 5 i0 Trym.underlying22 Trym.underlying9 hi hz0 hz1 hz2 _ _ _ rfl HX2.out _ rfl HSY.out (by show Y.length + 2 ≤ _; omega) (by omega) ?_; intro v3 w3 hown3 hgrow3 _; have HX3 : Hid (w3.ownsRow base 5 1 v3 (Y ++ [92, 102]).length (bs (Y ++ [92, 102]))) := owns_norm hown3 (bs_append _ _).symm; have hb3 : Below base w w3 := hb2.grown hgrow3 (by omega) (fun q hq => (HX2.out.lt q hq).1); clear hown3 hgrow3))
        go_roundw
        case rel => exact ⟨k + 1, k + 1, Y ++ [92, 102], by omega, by go_num, by go_num, Nat.le_refl _, by omega, HX3, HMn, hb3⟩
        case measure => simp [intOf]; omega
      have hdef : s[k] < 32 := by
        rcases Nat.lt_or_ge s[k].toNat 32 with h | h
        · exact UInt8.lt_iff_toNat_lt.2 h
        · exact absurd ⟨UInt8.le_iff_toNat_le.2 h, h34, h92⟩ hpl
      have hd0 : (s[k].toNat : Int) < 32 := by have := UInt8.lt_iff_toNat_lt.1 hdef; simp at this; omega
      have n34 : ((s[k].toNat : Int) == 34) = false := ne_bool h34
      have n92 : ((s[k].toNat : Int) == 92) = false := ne_bool h92
      have n10 : ((s[k].toNat : Int) == 10) = false := ne_bool h10
      have n13 : ((s[k].toNat : Int) == 13) = false := ne_bool h13
      have n9 : ((s[k].toNat : Int) == 9) = false := ne_bool h9
      have n8 : ((s[k].toNat : Int) == 8) = false := ne_bool h8
      have n12 : ((s[k].toNat : Int) == 12) = false := ne_bool h12
      have HE : Hid (escB s[k] = [92, 117, 48, 48, hexd (s[k] / 16), hexd (s[k] % 16)]) := by
        show escB s[k] = [92, 117, 48, 48, hexd (s[k] / 16), hexd (s[k] % 16)]
        unfold escB
        rw [if_neg h34, if_neg h92, if_neg h10, if_neg h13, if_neg h9, if_neg h8, if_neg h12, if_pos hdef]
      obtain ⟨hq0, hq1, hr0, hr1, HD1, HD2⟩ := nibbles hd0
      obtain ⟨d1, hd1⟩ : ∃ d, hexd (s[k] / 16) = d := ⟨_, rfl⟩
      obtain ⟨d2, hd2⟩ : ∃ d, hexd (s[k] % 16) = d := ⟨_, rfl⟩
      rw [hd1] at HE HD1
      rw [hd2] at HE HD2
      have HMn : Hid (Mid L (Y ++ [92, 117, 48, 48, d1, d2]) s.data.toList (k + 1) (k + 1)) := mid_next HM.out hlt HLL.out HY.out HE.out
      have hln := mid_len HMn.out HLL.out hL
      clear hpl h34 h92 h10 h13 h9 h8 h12 hdef HE HM hd1 hd2
      go_wp2_with (first | (at_builtin; refine Lib.wpList_append_own_string _ rfl (.tmp 30) (.tmp 34) 22 9 rfl base 5 i0 Trym.underlying22 Trym.underlying9 hi hz0 hz1 hz2 _ _ _ rfl HX.out (s.extract sN k) rfl HSZ.out.1 HSZ.out.2 (by omega) ?_; intro v2 w2 hown2 hgrow2 _; have HX2 : Hid (w2.ownsRow base 5 1 v2 Y.length (bs Y)) := owns_norm hown2 HYE.out; have hb2 : Below base w w2 := hbr.grown hgrow2 (by omega) (fun q hq => (HX.out.lt q hq).1); have hs2 := hb2.size; clear hown2 hgrow2))
      go_region_law (refine step_append_own _ rfl (.tmp 37) (.tmp 44) 22 rfl base 5 i0 (.int .u8 0) 1 1 Trym.underlying22 hi hz0 hz1 hz2 rfl (by decide) _ _ _ rfl (World.ownsRow.drew (HX2.out.alloc _)) ⟨w2.heap.size, 0, none⟩ 6 6 (bs [92, 117, 48, 48, d1, d2]) rfl rfl (cells_new_drew _) (bs_one _) HSY6.out (by omega) (by simp; omega) ?_; intro v3 w3 hown3 hgrow3; have HX3 : Hid (w3.ownsRow base 5 1 v3 (Y ++ [92, 117, 48, 48, d1, d2]).length (bs (Y ++ [92, 117, 48, 48, d1, d2]))) := owns_norm hown3 (bs_append _ _).symm; have hb3 : Below base w w3 := (hb2.alloc (by omega) _).drew.grown hgrow3 (by simp; omega) (fun q hq => (HX2.out.lt q hq).1); clear hown3 hgrow3)
      all_goals
        go_wp2
        go_roundw
        case rel => exact ⟨k + 1, k + 1, Y ++ [92, 117, 48, 48, d1, d2], by omega, by go_num, by go_num, Nat.le_refl _, by omega, HX3, HMn, hb3⟩
        case measure => simp [intOf]; omega
    · have hks : k = s.size := by omega
      obtain ⟨Y, HY⟩ : ∃ Y, Hid (X ++ s.data.toList.drop sN = Y) := ⟨_, rfl⟩
      have hYl : Y.length = X.length + (s.size - sN) := by rw [← HY.out, List.length_append, List.length_drop, HLL.out]
      have HYE : Hid (bs X ++ Lib.strCells (s.extract sN s.size) = bs Y) := by
        show bs X ++ Lib.strCells (s.extract sN s.size) = bs Y
        rw [← HY.out, bs_append, strCells_bs, extract_list, List.take_of_length_le (by rw [HLL.out]; exact Nat.le_refl _)]
      have hsz : (s.extract sN s.size).size = s.size - sN := by rw [ByteArray.size_extract, Nat.min_self]
      have HSZ : Hid (X.length + (s.extract sN s.size).size ≤ maxLen ∧ X.length + (s.extract sN s.size).size ≤ 140737488355328) := by rw [hsz]; exact ⟨by unfold maxLen; omega, by omega⟩
      have hYb : Y.length ≤ 7340033 := by omega
      have HSY : Hid (Y.length + 1 ≤ maxLen) := by show Y.length + 1 ≤ maxLen; unfold maxLen; omega
      have HEND : Hid (Y ++ [34] = L ++ quote s.data.toList) := by
        have h := HM.out
        rw [hks, ← HLL.out] at h
        have := mid_end h
        rw [HY.out] at this
        exact this
      have hsN : sN ≤ s.size := by omega
      clear hsz hYl HM HY hks
      go_wp2_with (first | (at_builtin; refine Lib.wpList_append_own_string _ rfl (.tmp 75) (.tmp 78) 22 9 rfl base 5 i0 Trym.underlying22 Trym.underlying9 hi hz0 hz1 hz2 _ _ _ rfl HX.out (s.extract sN s.size) rfl HSZ.out.1 HSZ.out.2 (by omega) ?_; intro v2 w2 hown2 hgrow2 _; have HX2 : Hid (w2.ownsRow base 5 1 v2 Y.length (bs Y)) := owns_norm hown2 HYE.out; have hb2 : Below base w w2 := hbr.grown hgrow2 (by omega) (fun q hq => (HX.out.lt q hq).1); have hs2 := hb2.size; clear hown2 hgrow2) | (at_builtin; refine wpList_append_own _ rfl (.tmp 80) (.tmp 81) 22 rfl base 5 i0 (.int .u8 0) 1 1 Trym.underlying22 hi hz0 hz1 hz2 rfl (by decide) _ _ _ rfl (HX2.out.alloc _) ⟨w2.heap.size, 0, none⟩ 1 1 (bs [34]) rfl rfl (cells_new _) (bs_one _) HSY.out (by omega) (by simp; omega) ?_; intro v3 w3 hown3 hgrow3 _; have HX3 : Hid (w3.ownsRow base 5 1 v3 (Y ++ [34]).length (bs (Y ++ [34]))) := owns_norm hown3 (bs_append _ _).symm; have hb3 : Below base w w3 := (hb2.alloc (by omega) _).grown hgrow3 (by simp; omega) (fun q hq => (HX2.out.lt q hq).1); clear hown3 hgrow3))
      go_ret
      have hfin := HX3.out
      rw [HEND.out] at hfin
      exact ⟨_, rfl, by rw [HBASE.out]; exact hfin, by rw [HBASE.out]; exact hb3⟩
end Go.Proofs.Qxb6602368aMods.Q
