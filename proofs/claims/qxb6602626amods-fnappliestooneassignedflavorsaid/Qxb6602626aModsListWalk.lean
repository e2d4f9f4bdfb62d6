import Derived.Test.Qxb6602626aModsListed
import Derived.Test.Qxb6602626aModsZzb
import Derived.Test.Qxb6602626aModsListPlain
import Derived.Deep.Cut
import Derived.Deep.CutRange
import Derived.Laws.CopyOwn
namespace Go.Proofs.Qxb6602626aMods.Lst
open Go.RowKit Ss

theorem sizes9 : (Trym.prog.info? 9).map (·.size) = some 1 := by kernel_rfl

/-- the row behind the copy -/
theorem fill_copied {w : World} {B n : Nat} {cur cs : List Value} {ss : Nat → ByteArray} (h : w.heap[B]? = some (.cells (splice cur 0 cs).toArray 9 (0, 0))) (hc : cur.length = n) (hl : cs.length = n) (hn : n ≤ maxLen)
    (hcs : ∀ j, j < n → cs[j]? = some (.string (ss j))) : Fill w B n (fun _ => True) ss := by
  have e : splice cur 0 cs = cs := by
    unfold splice
    rw [List.take_zero, List.nil_append, List.drop_of_length_le (by omega), List.append_nil]
  rw [e] at h
  have hlt : B < w.heap.size := (Array.getElem?_eq_some_iff.1 h).1
  have how : w.ownsRow 0 9 1 (.slice (some ⟨B, 0, none⟩) n n) n cs := ⟨by omega, .inr ⟨B, n, cs.toArray, rfl, Nat.zero_le _, h, Nat.le_refl _, hn, by simp; omega, by rw [Nat.mul_one]; exact List.take_of_length_le (by simp; omega)⟩⟩
  refine ⟨hlt, fun j hj => ⟨?_, how.frozenAt j⟩, fun j hj _ => ?_⟩
  · rw [how.cellAt j (by omega), hcs j hj]; rfl
  · rw [how.cellAt j (by omega), hcs j hj]

theorem row_of_owns {w : World} {base B n : Nat} {xs : List Value} (h : w.ownsRow base 9 1 (.slice (some ⟨B, 0, none⟩) n n) n xs) : ∃ cur : List Value, w.heap[B]? = some (.cells cur.toArray 9 (0, 0)) ∧ cur.length = n := by
  rcases h.2 with ⟨h', _⟩ | ⟨g, cap, cur, h', _, hg, _, _, hs, _⟩
  · simp at h'
  · simp only [Value.slice.injEq, Option.some.injEq, Addr.mk.injEq, and_true, true_and] at h'
    obtain ⟨rfl, rfl⟩ := h'
    exact ⟨cur.toList, by simpa using hg, by simpa using hs⟩

def strCs (ss : Nat → ByteArray) (n : Nat) : List Value := (List.range n).map fun j => .string (ss j)
theorem strCs_length (ss : Nat → ByteArray) (n : Nat) : (strCs ss n).length = n := by simp [strCs]
theorem strCs_min (ss : Nat → ByteArray) (n : Nat) : (strCs ss n).length = Nat.min n n := by rw [strCs_length]; exact (Nat.min_self n).symm
theorem strCs_get (ss : Nat → ByteArray) (n j : Nat) (h : j < n) : (strCs ss n)[j]? = some (.string (ss j)) := by simp [strCs, h]
theorem strCs_one (ss : Nat → ByteArray) (n : Nat) : ∀ v ∈ strCs ss n, v.oneCell' = true := by
  intro v hv
  simp only [strCs, List.mem_map] at hv
  obtain ⟨j, _, rfl⟩ := hv
  rfl
theorem strCs_src {w : World} {B : Nat} {ad : Addr} {n : Nat} {ss : Nat → ByteArray} (h : Reads w B (some ad) n ss) : ∀ j v, (strCs ss n)[j]? = some v → w.cell? (ad.add j) = some v := by
  intro j v hv
  have hj : j < n := by
    have := List.getElem?_eq_some_iff.1 hv
    obtain ⟨h1, _⟩ := this
    rwa [strCs_length] at h1
  rw [strCs_get ss n j hj] at hv
  obtain ⟨b, off, e, _, hc⟩ := h (by omega)
  obtain rfl : ad = ⟨b, off, none⟩ := by simpa using e
  rw [← Option.some.inj hv, WideShapes.add_plain]
  exact hc j hj

/-- of no names none is listed -/
theorem zzlisted0 {a : Option Addr} {c : Nat} {x : ByteArray} (w : World) : Calls Trym.prog 11 #[.slice a 0 c, .string x] w fun e w' => e = .returned (.bool false) ∧ w' = w :=
  zzlisted 0 (fun _ => ByteArray.empty) w (by omega) (fun h => absurd h (by omega)) (show _ = _ from rfl)

theorem sameD {s x : ByteArray} {r : Bool} (w : World) (hs : s.size ≤ maxLen) (hx : x.size ≤ maxLen) (h : Hid (decide (s = x) = r)) :
    Calls Trym.prog 12 #[.string s, .string x] w fun e w' => e = .returned (.bool r) ∧ ∃ q, w' = w.drewN q := by
  have H := same s x w hs hx
  rw [h.out] at H
  exact H

theorem own_drewN {w : World} {base : Nat} {e : TypeId} {size : Nat} {v : Value} {n q : Nat} {xs : List Value} (h : w.ownsRow base e size v n xs) : (w.drewN q).ownsRow base e size v n xs := h
theorem cell_one {w : World} {q : Nat} {t : TypeId} (v : Value) : ∀ j u, [v][j]? = some u → ((w.drewN q).alloc (.cells #[v] t)).cell? ((⟨w.heap.size, 0, none⟩ : Addr).add j) = some u := by
  intro j u hj
  match j, hj with
  | 0, hj =>
    simp at hj
    subst hj
    exact World.cell?_alloc_new (w.drewN q) #[v] t 0
theorem one_str (s : ByteArray) : ∀ u ∈ [Value.string s], u.oneCell' = true := by
  intro u hu
  simp at hu
  subst hu
  rfl

/-- what is kept, as a row that is read -/
theorem reads_kept {w : World} {G cap : Nat} {ss : Nat → ByteArray} {x : ByteArray} {n base : Nat} (h : w.ownsRow base 9 1 (.slice (some ⟨G, 0, none⟩) (keep ss x n).length cap) (keep ss x n).length ((keep ss x n).map Value.string)) :
    Reads w (G + 1) (some ⟨G, 0, none⟩) (keep ss x n).length (kept ss x n) := fun _ =>
  ⟨G, 0, rfl, by omega, fun j hj => by
    rw [Nat.zero_add, h.cellAt j (by omega), List.getElem?_map, List.getElem?_eq_getElem hj]
    simp [kept, hj]⟩

set_option maxRecDepth 20000 in
theorem big (a : Option Addr) (n c : Nat) (ss : Nat → ByteArray) (x y : ByteArray) (w : World) (hn : n ≤ maxLen) (hx : x.size ≤ maxLen) (hy : y.size ≤ maxLen) (hr : Reads w w.heap.size a n ss) (hs : ∀ j, j < n → (ss j).size ≤ maxLen)
    (hbig : 65536 < n ∨ 1048576 < x.size ∨ 1048576 < y.size) :
    Calls Trym.prog 3 #[.slice a n c, .string x, .string y] w fun e w' => e = .returned (.bool true) ∧ Below w.heap.size w w' := by
  have HZ : Hid (Calls Trym.prog 9 #[.slice a n c, .string x, .string y] w fun e w' => AnyBool e ∧ w' = w) := zzbL w.heap.size a n c ss x y w hn hx hy hr hs
  clear hr hs
  unfold maxLen at hn hx hy
  go_enter Trym.func3, Trym.ntmps3
  go_wp2_with fail
  refine HZ.out.mono ?_
  rintro e w' ⟨⟨r, rfl⟩, rfl⟩
  cases r
  · go_wp2
    go_ret
    exact ⟨rfl, Below.refl _ _⟩
  · go_wp2_with fail
    all_goals first | (exfalso; omega) | (go_ret; exact ⟨rfl, Below.refl _ _⟩)

set_option maxRecDepth 20000 in
set_option maxHeartbeats 1000000 in
theorem small (a : Option Addr) (n c : Nat) (ss : Nat → ByteArray) (x y : ByteArray) (w : World) (hn : n ≤ 65536) (hx : x.size ≤ 1048576) (hy : y.size ≤ 1048576) (hr : Reads w w.heap.size a n ss) (hs : ∀ j, j < n → (ss j).size ≤ maxLen) :
    Calls Trym.prog 3 #[.slice a n c, .string x, .string y] w fun e w' => e = .returned (.bool true) ∧ Below w.heap.size w w' := by
  have HZ : Hid (Calls Trym.prog 9 #[.slice a n c, .string x, .string y] w fun e w' => AnyBool e ∧ w' = w) := zzbL w.heap.size a n c ss x y w (by unfold maxLen; omega) (by unfold maxLen; omega) (by unfold maxLen; omega) hr hs
  have HR : Hid (Reads w w.heap.size a n ss) := hr
  have HS : Hid (∀ j, j < n → (ss j).size ≤ maxLen) := hs
  clear hr hs
  obtain ⟨i0, hi, hz0, hz1, hz2⟩ := info_parts info9
  have hne := fun wx => run_neq_slice_nil_any (P := Trym.prog) wx 22 9 a n c 0 0 Trym.underlying22
  go_enter Trym.func3, Trym.ntmps3
  go_wp2_with fail
  refine HZ.out.mono ?_
  rintro e w' ⟨⟨r, rfl⟩, rfl⟩
  clear HZ
  cases r
  · go_wp2
    go_ret
    exact ⟨rfl, Below.refl _ _⟩
  go_wp2_with fail
  refine (bytesOf w'.heap.size a n c ss w' hn HR.out HS.out).mono ?_
  rintro e w2 ⟨t, rfl, ht0, ht1, rfl⟩
  by_cases hsum : 1048576 < t + x.size + y.size
  · go_wp2_with fail
    go_ret
    exact ⟨rfl, Below.refl _ _⟩
  go_upto_if 43 with (fail)
  go_cut [0] from 15 (fun s0 wx => ∃ (a' : Option Addr) (c' B' : Nat), s0 = .slice a' n c' ∧ Hid (Reads wx B' a' n ss) ∧ B' ≤ wx.heap.size ∧ Below w2.heap.size w2 wx)
  case first =>
    cases a with
    | none =>
      go_wp2
      go_meet
      case rel => exact ⟨none, c, w2.heap.size, rfl, HR, Nat.le_refl _, Below.refl _ _⟩
    | some ad =>
      go_wp2_with (at_make; refine wpList_make_full _ rfl _ _ 22 rfl w2.heap.size 9 i0 (.string ByteArray.empty) 1 Trym.underlying22 hi hz0 hz1 _ _ _ _ n rfl rfl (by omega) (by omega) (by rw [hz2]; omega) (by unfold maxLen; omega) (Nat.le_refl _) ?_)
      intro w1 hown hgrow
      have hbel : Below w2.heap.size w2 w1 := (Below.refl _ _).grown hgrow (Nat.le_refl _) (by simp)
      obtain ⟨cur, hrow, hcl⟩ := row_of_owns hown
      have HROW : Hid (w1.heap[w2.heap.size]? = some (.cells cur.toArray 9 (0, 0))) := hrow
      have HSRC : Hid (∀ j v, (strCs ss n)[j]? = some v → w1.cell? (ad.add j) = some v) := strCs_src (HR.out.below hbel (Nat.le_refl _))
      have HCL : Hid (cur.length = n) := hcl
      clear hown hgrow hrow hcl
      go_wp2_with (refine wpList_copy_splice rfl (.tmp 47) (.tmp 48) 22 22 rfl 9 Trym.underlying22 sizes9 _ _ n n n c rfl rfl w2.heap.size 0 cur 9 HROW.out (strCs ss n) (strCs_min _ _) (fun _ => ⟨rfl, ad, rfl, HSRC.out⟩) (by rw [strCs_length, HCL.out]; omega) (strCs_one _ _) w2.heap.size w2 hbel (Nat.le_refl _) ?_; intro w3 HROW3 hbel3)
      go_meet
      case rel =>
        have hF : Fill w3 w2.heap.size n (fun _ => True) ss := fill_copied HROW3.out HCL.out (strCs_length _ _) (by unfold maxLen; omega) (fun j hj => strCs_get _ _ _ hj)
        exact ⟨_, n, w2.heap.size + 1, rfl, hF.reads (Nat.le_refl _) (fun _ _ => trivial), hF.1, hbel3⟩
  case rest =>
    obtain ⟨a', c', B', rfl, HR', hB', hbel⟩ := hcut
    clear HR hne
    go_wp2_with fail
    refine (zzlisted0 _).mono ?_
    rintro e w4 ⟨rfl, rfl⟩
    go_wp2_with fail
    refine (zzlisted0 _).mono ?_
    rintro e w5 ⟨rfl, hw5⟩
    have hb5 : Below w2.heap.size w2 w5 := by rw [hw5]; exact hbel.alloc hbel.size _
    have hR5 : Reads w5 B' a' n ss := by rw [hw5]; exact HR'.out.below ((Below.refl w4.heap.size w4).alloc (Nat.le_refl _) _) hB'
    have hB5 : B' ≤ w5.heap.size := by rw [hw5]; simp; omega
    have HR5 : Hid (Reads w5 B' a' n ss) := hR5
    clear hR5 HR' hbel hB' hw5
    go_wp2_with (at_make; refine wpList_make_full _ rfl _ _ 22 rfl w5.heap.size 9 i0 (.string ByteArray.empty) 1 Trym.underlying22 hi hz0 hz1 _ _ _ _ (n + 1) rfl rfl (by omega) (by omega) (by rw [hz2]; omega) (by unfold maxLen; omega) (Nat.le_refl _) ?_)
    intro w6 hown hgrow
    have HF : Hid (Fill w6 w5.heap.size (n + 1) (fun _ => False) (ext ss n x)) := Fill.of_owns _ hown (hown.lt _ rfl).2
    have hb6 : Below w5.heap.size w5 w6 := (Below.refl _ _).grown hgrow (Nat.le_refl _) (by simp)
    clear hown hgrow
    go_wp2
    go_loopw [9] (fun i wr => ∃ k : Nat, k ≤ n ∧ i = .int .i64 k ∧ Below w5.heap.size w5 wr ∧ Hid (Fill wr w5.heap.size (n + 1) (fun j => j < k) (ext ss n x))) (fun i _ => n - (intOf i).toNat)
    case atStart => exact ⟨0, Nat.zero_le _, rfl, hb6, HF.out.cong (fun j _ hj => absurd hj (by omega))⟩
    case round =>
      obtain ⟨k, hk, rfl, hbr, HFr⟩ := hrel
      clear HF hb6
      by_cases hlt : k < n
      · obtain ⟨b, off, rfl, hbB, hc⟩ := HR5.out (by omega)
        have hck := (hbr.cell (p := ⟨b, off + k, none⟩) (by show b < _; omega)).trans (hc k hlt)
        have hfk := (HFr.out.2.1 k (by omega)).2
        obtain ⟨v0, hv0⟩ := Option.isSome_iff_exists.1 (HFr.out.2.1 k (by omega)).1
        have hst := HFr.out.store (i := k) (P' := fun j => j < k + 1) (by omega) (fun j h1 h2 => by omega)
        have hek : ext ss n x k = ss k := by unfold ext; rw [if_pos hlt]
        rw [hek] at hst
        have HST : Hid (Fill (wr.setCell ⟨w5.heap.size, k, none⟩ (.string (ss k))) w5.heap.size (n + 1) (fun j => j < k + 1) (ext ss n x)) := hst
        clear hst hek hc
        generalize ss k = s at hck HST
        go_wp2
        go_roundw
        case rel => exact ⟨k + 1, by omega, by go_num, hbr.setCell (Nat.le_refl _) _, HST⟩
        case measure => simp [intOf]; omega
      · have hkn : k = n := by omega
        subst hkn
        have hfk := (HFr.out.2.1 k (by omega)).2
        obtain ⟨v0, hv0⟩ := Option.isSome_iff_exists.1 (HFr.out.2.1 k (by omega)).1
        have hst := HFr.out.store (i := k) (P' := fun j => j < k + 1) (by omega) (fun j h1 h2 => by omega)
        have hek : ext ss k x k = x := by simp [ext]
        rw [hek] at hst
        obtain ⟨wq, hwq⟩ : ∃ wq, wq = wr := ⟨wr, rfl⟩
        subst hwq
        have hFlt : w5.heap.size < wq.heap.size := HFr.out.1
        have HF7 : Hid (Fill (wq.setCell ⟨w5.heap.size, k, none⟩ (.string x)) w5.heap.size (k + 1) (fun j => j < k + 1) (ext ss k x)) := hst
        have HB7 : Hid (Below w5.heap.size w5 (wq.setCell ⟨w5.heap.size, k, none⟩ (.string x))) := hbr.setCell (Nat.le_refl _) _
        clear hst hek hbr HFr hlt hk
        go_wp2_with (at_make; refine wpList_make_own _ rfl _ _ 22 rfl wq.heap.size 9 i0 (.string ByteArray.empty) 1 Trym.underlying22 hi hz0 hz1 _ _ _ k rfl rfl (by omega) (by rw [hz2]; omega) (by unfold maxLen; omega) (by simp) ?_)
        intro w8 hown8 hgrow8
        have hb8 : Below wq.heap.size (wq.setCell ⟨w5.heap.size, k, none⟩ (.string x)) w8 := (Below.refl _ _).grown hgrow8 (by simp) (by simp)
        have HB8 : Hid (Below w5.heap.size w5 w8) := HB7.out.trans (hb8.mono (by omega))
        have HF8 : Hid (Fill w8 w5.heap.size (k + 1) (fun j => j < k + 1) (ext ss k x)) := HF7.out.below hb8 hFlt
        have HR8 : Hid (Reads w8 B' a' k ss) := HR5.out.below HB8.out hB5
        have hG8 : wq.heap.size < w8.heap.size := (hown8.lt _ rfl).2
        have HO8 : Hid (w8.ownsRow wq.heap.size 9 1 (.slice (some ⟨wq.heap.size, 0, none⟩) 0 k) 0 []) := hown8
        clear hgrow8 hb8 HF7 HB7 hfk hv0 hown8
        have hx' : x.size ≤ maxLen := by unfold maxLen; omega
        have HX : Hid (x.size ≤ maxLen) := hx'
        clear hx'
        go_wp2
        go_loopw [10, 11] (fun v i wr => ∃ j : Nat, j ≤ k ∧ i = .int .i64 j ∧ v = .slice (some ⟨wq.heap.size, 0, none⟩) (keep ss x j).length k ∧ Below wq.heap.size w8 wr ∧ Hid (wr.ownsRow wq.heap.size 9 1 (.slice (some ⟨wq.heap.size, 0, none⟩) (keep ss x j).length k) (keep ss x j).length ((keep ss x j).map Value.string))) (fun _ i _ => k - (intOf i).toNat)
        case atStart => exact ⟨0, Nat.zero_le _, rfl, rfl, Below.refl _ _, HO8⟩
        case round =>
          obtain ⟨j, hj, rfl, rfl, hbr, HO⟩ := hrel
          clear HO8
          by_cases hlt : j < k
          · obtain ⟨b, off, rfl, hbB, hc⟩ := HR8.out (by omega)
            have hcj := (hbr.cell (p := ⟨b, off + j, none⟩) (by show b < _; omega)).trans (hc j hlt)
            have HSj : Hid ((ss j).size ≤ maxLen) := HS.out j hlt
            have hkl := keep_length ss x j
            have hszr := hbr.size
            clear hc
            by_cases hse : ss j = x
            · have HD : Hid (decide (ss j = x) = true) := decide_eq_true hse
              have HK : Hid (keep ss x (j + 1) = keep ss x j) := by show keep ss x (j + 1) = keep ss x j; rw [keep, if_pos hse]
              clear hse
              generalize ss j = s at hcj HSj HD
              go_wp2_with fail
              refine (sameD _ HSj.out HX.out HD).mono ?_
              rintro e w9 ⟨rfl, q, rfl⟩
              go_wp2
              go_roundw
              case rel => exact ⟨j + 1, by omega, by go_num, by rw [HK.out], below_drewN hbr _, by rw [HK.out]; exact own_drewN HO.out⟩
              case measure => simp [intOf]; omega
            · have HD : Hid (decide (ss j = x) = false) := decide_eq_false hse
              have HK : Hid (keep ss x (j + 1) = keep ss x j ++ [ss j]) := by show keep ss x (j + 1) = keep ss x j ++ [ss j]; rw [keep, if_neg hse]
              clear hse
              generalize ss j = s at hcj HSj HD HK
              go_wp2_with fail
              refine (sameD _ HSj.out HX.out HD).mono ?_
              rintro e w9 ⟨rfl, q, rfl⟩
              go_wp2_with (at_builtin; refine wpList_append_fits _ rfl (.tmp 96) (.tmp 101) 22 rfl wq.heap.size 9 i0 1 Trym.underlying22 hi hz1 wq.heap.size (keep ss x j).length k _ rfl ((own_drewN HO.out).alloc _) ⟨wr.heap.size, 0, none⟩ 1 1 [.string s] rfl rfl (cell_one _) (one_str s) (by omega) ?_; intro w10 hown10 hgrow10)
              go_roundw
              case rel =>
                refine ⟨j + 1, by omega, by go_num, by rw [HK.out, List.length_append, List.length_singleton], ?_, ?_⟩
                · exact ((below_drewN hbr q).alloc (by show wq.heap.size ≤ wr.heap.size; omega) _).grown hgrow10 (by simp; omega) (by intro k' hk'; cases hk'; exact Nat.le_refl _)
                · show World.ownsRow _ _ _ _ _ _ _
                  rw [HK.out, List.length_append, List.length_singleton, List.map_append]
                  exact hown10
              case measure => simp [intOf]; omega
          · have hjk : j = k := by omega
            subst hjk
            obtain ⟨wp, hwp⟩ : ∃ wp, wp = wr := ⟨wr, rfl⟩
            subst hwp
            have hszp := hbr.size
            have HBp : Hid (Below w5.heap.size w5 wp) := HB8.out.trans (hbr.mono (by omega))
            have HFp : Hid (Fill wp w5.heap.size (j + 1) (fun t => t < j + 1) (ext ss j x)) := HF8.out.below hbr hFlt
            have HRp : Hid (Reads wp B' a' j ss) := HR8.out.below hbr (by omega)
            clear HB8 HF8 HR8 hbr hlt hj
            go_wp2_with (at_make; refine wpList_make_full _ rfl _ _ 22 rfl wp.heap.size 9 i0 (.string ByteArray.empty) 1 Trym.underlying22 hi hz0 hz1 _ _ _ _ j rfl rfl (by omega) (by omega) (by rw [hz2]; omega) (by unfold maxLen; omega) (Nat.le_refl _) ?_)
            intro w11 hown11 hgrow11
            have HF11 : Hid (Fill w11 wp.heap.size j (fun _ => False) (rev ss j)) := Fill.of_owns _ hown11 (hown11.lt _ rfl).2
            have hb11 : Below wp.heap.size wp w11 := (Below.refl _ _).grown hgrow11 (Nat.le_refl _) (by simp)
            clear hown11 hgrow11
            go_wp2
            go_loopw [13] (fun i wr => ∃ t : Nat, t ≤ j ∧ i = .int .i64 t ∧ Below wp.heap.size wp wr ∧ Hid (Fill wr wp.heap.size j (fun u => j - t ≤ u) (rev ss j))) (fun i _ => j - (intOf i).toNat)
            case atStart => exact ⟨0, Nat.zero_le _, rfl, hb11, HF11.out.cong (fun u h1 h2 => absurd h2 (by omega))⟩
            case round =>
              obtain ⟨t', ht', rfl, hbr, HFr⟩ := hrel
              clear HF11 hb11
              by_cases hlt : t' < j
              · obtain ⟨i, hi'⟩ : ∃ i : Nat, j = t' + 1 + i := ⟨j - (t' + 1), by omega⟩
                obtain ⟨b, off, rfl, hbB, hc⟩ := HRp.out (by omega)
                have hck := (hbr.cell (p := ⟨b, off + t', none⟩) (by show b < _; omega)).trans (hc t' hlt)
                have hfk := (HFr.out.2.1 i (by omega)).2
                obtain ⟨v0, hv0⟩ := Option.isSome_iff_exists.1 (HFr.out.2.1 i (by omega)).1
                have hst := HFr.out.store (i := i) (P' := fun u => j - (t' + 1) ≤ u) (by omega) (fun u h1 h2 => by omega)
                have hek : rev ss j i = ss t' := by unfold rev; rw [show j - 1 - i = t' by omega]
                rw [hek] at hst
                have HST : Hid (Fill (wr.setCell ⟨wp.heap.size, i, none⟩ (.string (ss t'))) wp.heap.size j (fun u => j - (t' + 1) ≤ u) (rev ss j)) := hst
                have hij : (j : Int) - 1 - (t' : Int) = (i : Int) := by omega
                have hil : i < j := by omega
                have HIJ : Hid (j = t' + 1 + i) := hi'
                clear hst hek hc hi'
                generalize ss t' = s at hck HST
                go_wp2
                go_roundw
                case rel => exact ⟨t' + 1, by omega, by go_num, hbr.setCell (Nat.le_refl _) _, HST⟩
                case measure => simp [intOf]; omega
              · have hszr := hbr.size
                have hR1 : Reads wr B' a' j ss := HRp.out.below hbr (by omega)
                have hR2 : Reads wr (w5.heap.size + 1) (some ⟨w5.heap.size, 0, none⟩) (j + 1) (ext ss j x) := (HFp.out.below hbr (by omega)).reads (Nat.le_refl _) (fun _ h => h)
                have hR3 : Reads wr (wq.heap.size + 1) (some ⟨wq.heap.size, 0, none⟩) (keep ss x j).length (kept ss x j) := (reads_kept HO.out).below hbr (by omega)
                have hR4 : Reads wr (wp.heap.size + 1) (some ⟨wp.heap.size, 0, none⟩) j (rev ss j) := HFr.out.reads (Nat.le_refl _) (fun u _ => by omega)
                have HALL : Hid (Reads wr B' a' j ss ∧ Reads wr (w5.heap.size + 1) (some ⟨w5.heap.size, 0, none⟩) (j + 1) (ext ss j x) ∧ Reads wr (wq.heap.size + 1) (some ⟨wq.heap.size, 0, none⟩) (keep ss x j).length (kept ss x j) ∧ Reads wr (wp.heap.size + 1) (some ⟨wp.heap.size, 0, none⟩) j (rev ss j)) := ⟨hR1, hR2, hR3, hR4⟩
                have HBW : Hid (Below w2.heap.size w2 wr) := hb5.trans ((HBp.out.trans (hbr.mono (by omega))).mono hb5.size)
                have HKL : Hid ((keep ss x j).length ≤ 65537) := by have := keep_length ss x j; show (keep ss x j).length ≤ 65537; omega
                obtain ⟨bf, Hbf⟩ : ∃ r, Hid (mem ss j y = r) := ⟨_, rfl⟩
                have Hrev : Hid (mem (rev ss j) j y = bf) := by show mem (rev ss j) j y = bf; rw [mem_rev]; exact Hbf
                have Hwx : Hid (mem (ext ss j x) (j + 1) x = true) := by show mem (ext ss j x) (j + 1) x = true; rw [mem_ext]; simp
                have Hox : Hid (mem (kept ss x j) (keep ss x j).length x = false) := by show mem (kept ss x j) (keep ss x j).length x = false; rw [mem_kept]; simp
                have HX2 : Hid (x.size ≤ maxLen ∧ y.size ≤ maxLen) := ⟨HX.out, by unfold maxLen; omega⟩
                clear hR1 hR2 hR3 hR4 hbr HFr HO HFp HRp HBp hszr
                go_wp2_with fail
                refine (zzlisted B' ss wr (by omega) HALL.out.1 Hbf).mono ?_
                rintro e wz ⟨rfl, rfl⟩
                go_wp2_with fail
                refine (zzlisted (w5.heap.size + 1) (ext ss j x) wz (by omega) HALL.out.2.1 Hwx).mono ?_
                rintro e wz ⟨rfl, rfl⟩
                go_wp2_with fail
                refine (zzlisted (wq.heap.size + 1) (kept ss x j) wz HKL.out HALL.out.2.2.1 Hox).mono ?_
                rintro e wz ⟨rfl, rfl⟩
                go_wp2_with fail
                refine (zzlisted (wp.heap.size + 1) (rev ss j) wz (by omega) HALL.out.2.2.2 Hrev).mono ?_
                rintro e wz ⟨rfl, rfl⟩
                by_cases hyx : y = x
                · have HD : Hid (decide (y = x) = true) := decide_eq_true hyx
                  have Hwy : Hid (mem (ext ss j x) (j + 1) y = true) := by rw [hyx]; exact Hwx
                  have Hoy : Hid (mem (kept ss x j) (keep ss x j).length y = false) := by rw [hyx]; exact Hox
                  clear hyx
                  go_wp2_with fail
                  refine (sameD _ HX2.out.2 HX2.out.1 HD).mono ?_
                  rintro e w12 ⟨rfl, q, rfl⟩
                  go_wp2_with fail
                  refine (zzlisted (w5.heap.size + 1) (ext ss j x) _ (by omega) (HALL.out.2.1.below (below_drewN (Below.refl _ _) q) (Nat.le_refl _)) Hwy).mono ?_
                  rintro e w13 ⟨rfl, hw13⟩
                  subst hw13
                  go_wp2_with fail
                  refine (zzlisted (wq.heap.size + 1) (kept ss x j) _ HKL.out (HALL.out.2.2.1.below (below_drewN (Below.refl _ _) q) (Nat.le_refl _)) Hoy).mono ?_
                  rintro e w14 ⟨rfl, hw14⟩
                  subst hw14
                  go_wp2
                  go_ret
                  exact ⟨rfl, below_drewN HBW.out _⟩
                · have HD : Hid (decide (y = x) = false) := decide_eq_false hyx
                  have Hwy : Hid (mem (ext ss j x) (j + 1) y = bf) := by
                    show mem (ext ss j x) (j + 1) y = bf
                    rw [mem_ext, Hbf.out, decide_eq_false (fun h => hyx h.symm)]; simp
                  have Hoy : Hid (mem (kept ss x j) (keep ss x j).length y = bf) := by
                    show mem (kept ss x j) (keep ss x j).length y = bf
                    rw [mem_kept, Hbf.out, decide_eq_false hyx]; simp
                  clear hyx
                  go_wp2_with fail
                  refine (sameD _ HX2.out.2 HX2.out.1 HD).mono ?_
                  rintro e w12 ⟨rfl, q, rfl⟩
                  go_wp2_with fail
                  refine (zzlisted (w5.heap.size + 1) (ext ss j x) _ (by omega) (HALL.out.2.1.below (below_drewN (Below.refl _ _) q) (Nat.le_refl _)) Hwy).mono ?_
                  rintro e w13 ⟨rfl, hw13⟩
                  subst hw13
                  go_wp2_with fail
                  refine (zzlisted (wq.heap.size + 1) (kept ss x j) _ HKL.out (HALL.out.2.2.1.below (below_drewN (Below.refl _ _) q) (Nat.le_refl _)) Hoy).mono ?_
                  rintro e w14 ⟨rfl, hw14⟩
                  subst hw14
                  go_wp2
                  go_ret
                  exact ⟨by simp, below_drewN HBW.out _⟩
end Go.Proofs.Qxb6602626aMods.Lst
