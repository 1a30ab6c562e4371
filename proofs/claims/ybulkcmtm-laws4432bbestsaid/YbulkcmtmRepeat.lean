/- slices.Repeat(x, y), len(x) = 1. -/
import Derived.Test.YbulkcmtmCopy
import Derived.Test.YbulkcmtmMul
import Derived.Deep.RegionLaw
import Derived.Deep.DrawnRows
import Derived.Deep.DeepCutAuto
import Derived.WalkSpells
namespace Go.Proofs.Ybulkcmtm
open Go.RowKit

/-- The row of block g, of y elements of sz cells each: the first n are told. -/
def RepAt (w : World) (g y n : Nat) (e : TypeId) (sz : Nat) (xs : List Value) : Prop := ∃ cur : Array Value, w.heap[g]? = some (.cells cur e (0, 0)) ∧ cur.size = y * sz ∧ cur.toList.take (n * sz) = rep n xs

theorem RepAt.own {w : World} {base g y : Nat} {e : TypeId} {sz : Nat} {xs : List Value} (h : RepAt w g y y e sz xs) (hb : base ≤ g) (hy : y ≤ maxLen) (hx : xs.length = sz) : w.ownsRow base e sz (.slice (some ⟨g, 0, none⟩) y y) y (rep y xs) := by
  obtain ⟨cur, h1, h2, h3⟩ := h
  exact ⟨by rw [rep_length, hx], .inr ⟨g, y, cur, rfl, hb, h1, Nat.le_refl _, hy, h2, h3⟩⟩

theorem RepAt.cells {w : World} {g y n c : Nat} {e : TypeId} {sz : Nat} {xs : List Value} (h : RepAt w g y n e sz xs) (hc : c ≤ n) (j : Nat) (u : Value) (hj : (rep c xs)[j]? = some u) : w.cell? ((⟨g, 0, none⟩ : Addr).add j) = some u := by
  obtain ⟨cur, h1, h2, h3⟩ := h
  have e1 : (rep n xs)[j]? = some u := by
    have hlt : j < c * xs.length := by
      have := (List.getElem?_eq_some_iff.1 hj).1
      rwa [rep_length] at this
    rw [← rep_take n c xs hc, List.getElem?_take, if_pos hlt] at hj
    exact hj
  rw [← h3, List.getElem?_take] at e1
  split at e1
  · rw [add0]; simpa [World.cell?, h1] using e1
  · cases e1

theorem rep_one (xs : List Value) : rep 1 xs = xs := by simp [rep]
theorem rep_zero (xs : List Value) : rep 0 xs = [] := by simp [rep]

theorem RepAt.grow {w' : World} {g y n c : Nat} {e : TypeId} {sz : Nat} {xs : List Value} {cur : Array Value} (h2 : cur.size = y * sz) (h3 : cur.toList.take (n * sz) = rep n xs) (hx : xs.length = sz) (hf : n + c ≤ y)
    (hh : w'.heap[g]? = some (.cells (cur.toList.take (n * sz) ++ rep c xs ++ cur.toList.drop (n * sz + (rep c xs).length)).toArray e (0, 0))) : RepAt w' g y (n + c) e sz xs := by
  refine ⟨_, hh, ?_, ?_⟩
  · have hle : (n + c) * sz ≤ y * sz := Nat.mul_le_mul_right _ hf
    have : (n + c) * sz = n * sz + c * sz := Nat.add_mul _ _ _
    rw [List.size_toArray, List.length_append, List.length_append, List.length_take, List.length_drop, rep_length, hx, Array.length_toList, h2]
    omega
  · simpa using row_grow (c := c) hx h3

theorem inf3 : (Yba.prog.info? 3).map (fun i => (i.zero, i.size, i.bytes)) = some (some (.int .i64 0), 1, 8) := by kernel_rfl

set_option maxHeartbeats 800000 in
set_option maxRecDepth 100000 in
theorem rep17 (xb y : Nat) (xs : List Value) (w : World) (hxs : xs.length = 1) (hone : ∀ u ∈ xs, u.oneCell' = true) (hx : ∀ j u, xs[j]? = some u → w.cell? ⟨xb, j, none⟩ = some u) (hy : y ≤ 10000) :
    Calls Yba.prog 17 #[.slice (some ⟨xb, 0, none⟩) 1 1, .int .i64 y] w fun e w' => ∃ g, e = .returned (.slice (some ⟨g, 0, none⟩) y y) ∧ Below w.heap.size w w' ∧ w.heap.size ≤ g ∧ w'.ownsRow w.heap.size 3 1 (.slice (some ⟨g, 0, none⟩) y y) y (rep y xs) := by
  obtain ⟨ie, hi, hz1, hz2, hz3⟩ := info_parts inf3
  have hsz : (Yba.prog.info? 3).map (·.size) = some 1 := by rw [hi]; simp [hz2]
  have y0 : ¬ (y : Int) < 0 := by omega
  have y1 : (y : Int) < 100000 := by omega
  have y2 : (0 : Int) ≤ (y : Int) := by omega
  have HX : Hid (∀ j u, xs[j]? = some u → w.cell? ⟨xb, j, none⟩ = some u) := hx
  have HO : Hid (∀ u ∈ xs, u.oneCell' = true) := hone
  have HL : Hid (xs.length = 1) := hxs
  have HS : Hid ((Yba.prog.info? 3).map (·.size) = some 1) := hsz
  clear hx hone hxs hsz
  go_enter Yba.func17, Yba.ntmps17
  go_wp2_with fail
  refine (mul26 y (by omega) _).mono ?_
  rintro e w2 ⟨rfl, hw2⟩
  rw [hw2]
  clear hw2 w2
  have y3 : decide ((9223372036854775807 : Int) < (y : Int)) = false := by simp; omega
  go_upto_if 26 with fail
  clear y3 y0
  go_upto_region 7 with (at_make; refine wpList_make_full _ rfl (.tmp 29) (.tmp 29) 36 rfl w.heap.size 3 ie _ 1 Yba.underlying36 hi hz1 hz2 .i64 .i64 (y : Int) (y : Int) y rfl rfl rfl rfl (by rw [hz3]; omega) (by unfold maxLen; omega) (Nat.le_refl _) ?_; intro W1 hown hgr)
  have hb1 : Below w.heap.size w W1 := ⟨hgr.os, hgr.tape, hgr.output, hgr.size, fun k hk => hgr.block k hk (by simp)⟩
  have hx1 : ∀ j u, xs[j]? = some u → W1.cell? ⟨xb, j, none⟩ = some u := fun j u hj => cell_below hb1 (HX.out j u hj)
  have hr0 : RepAt W1 w.heap.size y 0 3 1 xs := by
    rcases hown.2 with ⟨e, _⟩ | ⟨g, cp, cur, e, _, h1, _, _, h4, _⟩
    · cases e
    · cases e; exact ⟨cur, h1, h4, by simp [rep]⟩
  clear hown
  obtain ⟨n0, hn0⟩ : ∃ n0, Nat.min 1 y = n0 := ⟨_, rfl⟩
  have hn0' : n0 ≤ y ∧ n0 ≤ 1 ∧ (0 < y → 0 < n0) := by
    have : n0 = min 1 y := hn0.symm
    omega
  obtain ⟨cur, r1, r2, r3⟩ := hr0
  have hcs : (rep n0 xs).length = Nat.min 1 y * 1 := by rw [rep_length, HL.out, hn0]
  have hsrc : ∀ j u, (rep n0 xs)[j]? = some u → W1.cell? ((⟨xb, 0, none⟩ : Addr).add j) = some u := by
    intro j u hj
    rw [add0]
    rcases (by omega : n0 = 0 ∨ n0 = 1) with e | e
    · rw [e, rep_zero] at hj; simp at hj
    · rw [e, rep_one] at hj; exact hx1 j u hj
  have hfit : 0 + (rep n0 xs).length ≤ cur.size := by
    have : n0 * 1 ≤ y * 1 := Nat.mul_le_mul_right _ hn0'.1
    rw [rep_length, HL.out, r2]; omega
  have H1 : Hid (W1.heap[w.heap.size]? = some (.cells cur 3 (0, 0))) := r1
  have H2 : Hid (cur.size = y * 1) := r2
  have H3 : Hid (cur.toList.take (0 * 1) = rep 0 xs) := r3
  have H4 : Hid ((rep n0 xs).length = Nat.min 1 y * 1) := hcs
  have H5 : Hid (∀ j u, (rep n0 xs)[j]? = some u → W1.cell? ((⟨xb, 0, none⟩ : Addr).add j) = some u) := hsrc
  have H6 : Hid (Nat.min 1 y = n0) := hn0
  clear r1 r2 r3 hcs hsrc hx1 hn0
  go_upto_region 8 with (refine wpList_copy_sz rfl (.tmp 31) (.tmp 32) 36 36 rfl 3 1 Yba.underlying36 HS.out w.heap.size 0 y y ⟨xb, 0, none⟩ 1 1 rfl rfl cur 3 H1.out (rep n0 xs) H4.out H5.out hfit (fun u hu => HO.out u (rep_mem hu)) w.heap.size w hb1 (Nat.le_refl _) ?_; rw [H6.out]; intro W2 hc2 hb2)
  have hr2 : RepAt W2 w.heap.size y n0 3 1 xs := by
    have := RepAt.grow (n := 0) (c := n0) H2.out H3.out HL.out (by omega) (by simpa using hc2.out)
    rwa [Nat.zero_add] at this
  clear hc2 H1 H2 H3 H4 H5 H6 hb1 hgr hfit cur
  go_loopw [8] (fun v wr => ∃ n : Nat, v = .int .i64 n ∧ n ≤ y ∧ (0 < y → 0 < n) ∧ RepAt wr w.heap.size y n 3 1 xs ∧ Below w.heap.size w wr) (fun v _ => y - (intOf v).toNat)
  case atStart => exact ⟨n0, rfl, hn0'.1, hn0'.2.2, hr2, hb2⟩
  case round =>
    clear hr2 hb2 hn0'
    obtain ⟨n, rfl, hny, hn0, hR, hB⟩ := hrel
    by_cases hlt : n < y
    · have t1 : (n : Int) < (y : Int) := by omega
      have t2 : (0 : Int) ≤ (n : Int) := by omega
      have t3 : (n : Int) ≤ (y : Int) := by omega
      have t4 : n ≤ y := by omega
      have t5 : ¬ y = n := by omega
      obtain ⟨cur, r1, r2, r3⟩ := hR
      obtain ⟨c, hc⟩ : ∃ c, Nat.min n (y - n) = c := ⟨_, rfl⟩
      have hc' : c ≤ n ∧ n + c ≤ y ∧ 0 < c := by
        have : c = min n (y - n) := hc.symm
        omega
      have hR' : RepAt wr.drew w.heap.size y n 3 1 xs := ⟨cur, r1, r2, r3⟩
      have H1 : Hid (wr.drew.heap[w.heap.size]? = some (.cells cur 3 (0, 0))) := r1
      have H2 : Hid (cur.size = y * 1) := r2
      have H3 : Hid (cur.toList.take (n * 1) = rep n xs) := r3
      have H6 : Hid (Nat.min n (y - n) = c) := hc
      have H4 : Hid ((rep c xs).length = Nat.min n (y - n) * 1) := (by rw [rep_length, HL.out, hc] : (rep c xs).length = Nat.min n (y - n) * 1)
      clear r1 r2 r3 hc
      have hfit : n + (rep c xs).length ≤ cur.size := by
        rw [rep_length, HL.out, H2.out]; have := Nat.mul_le_mul_right 1 hc'.2.1; omega
      have t6 : (n : Int) + (c : Int) ≤ (y : Int) := by omega
      have t7 : (0 : Int) ≤ (c : Int) := by omega
      go_upto_region 9 with fail
      go_region_held3 (fun _ => True) (trivial) ((refine step_copy_sz (by rfl) (.tmp 41) (.tmp 44) 36 36 (by rfl) 3 1 Yba.underlying36 HS.out w.heap.size n (y - n) (y - n) ⟨w.heap.size, 0, none⟩ n y (by rfl) (by rfl) cur 3 H1.out (rep c xs) H4.out (hR'.cells hc'.1) hfit (fun u hu => HO.out u (rep_mem hu)) w.heap.size w hB.drew (Nat.le_refl _) ?_; rw [H6.out]; intro W2 hc2 hb2))
      have hw : IntKind.i64.wrap ((n : Int) + (c : Int)) = ((n + c : Nat) : Int) := by rw [IntKind.wrap_i64]; omega
      rw [hw]
      clear hw
      go_wp2
      go_roundw
      case rel => exact ⟨n + c, rfl, hc'.2.1, fun _ => by omega, RepAt.grow H2.out H3.out HL.out hc'.2.1 (by simpa using hc2.out), hb2⟩
      case measure => simp [intOf]; omega
    · obtain rfl : n = y := by omega
      have hkk : ¬ ((n : Int) < (n : Int)) := by omega
      go_wp2
      go_ret
      exact ⟨w.heap.size, rfl, hB, Nat.le_refl _, hR.own (Nat.le_refl _) (by unfold maxLen; omega) HL.out⟩

theorem inf56 : (Yba.prog.info? 56).map (fun i => (i.zero, i.size, i.bytes)) = some (some (.agg #[.int .i64 0, .int .i64 0]), 2, 16) := by kernel_rfl

set_option maxHeartbeats 800000 in
set_option maxRecDepth 100000 in
theorem rep15 (xb y : Nat) (xs : List Value) (w : World) (hxs : xs.length = 2) (hone : ∀ u ∈ xs, u.oneCell' = true) (hx : ∀ j u, xs[j]? = some u → w.cell? ⟨xb, j, none⟩ = some u) (hy : y ≤ 10000) :
    Calls Yba.prog 15 #[.slice (some ⟨xb, 0, none⟩) 1 1, .int .i64 y] w fun e w' => ∃ g, e = .returned (.slice (some ⟨g, 0, none⟩) y y) ∧ Below w.heap.size w w' ∧ w.heap.size ≤ g ∧ w'.ownsRow w.heap.size 56 2 (.slice (some ⟨g, 0, none⟩) y y) y (rep y xs) := by
  obtain ⟨ie, hi, hz1, hz2, hz3⟩ := info_parts inf56
  have hsz : (Yba.prog.info? 56).map (·.size) = some 2 := by rw [hi]; simp [hz2]
  have y0 : ¬ (y : Int) < 0 := by omega
  have y1 : (y : Int) < 100000 := by omega
  have y2 : (0 : Int) ≤ (y : Int) := by omega
  have HX : Hid (∀ j u, xs[j]? = some u → w.cell? ⟨xb, j, none⟩ = some u) := hx
  have HO : Hid (∀ u ∈ xs, u.oneCell' = true) := hone
  have HL : Hid (xs.length = 2) := hxs
  have HS : Hid ((Yba.prog.info? 56).map (·.size) = some 2) := hsz
  clear hx hone hxs hsz
  go_enter Yba.func15, Yba.ntmps15
  go_wp2_with fail
  refine (mul26 y (by omega) _).mono ?_
  rintro e w2 ⟨rfl, hw2⟩
  rw [hw2]
  clear hw2 w2
  have y3 : decide ((9223372036854775807 : Int) < (y : Int)) = false := by simp; omega
  go_upto_if 26 with fail
  clear y3 y0
  go_upto_region 7 with (at_make; refine wpList_make_full _ rfl (.tmp 29) (.tmp 29) 54 rfl w.heap.size 56 ie _ 2 Yba.underlying54 hi hz1 hz2 .i64 .i64 (y : Int) (y : Int) y rfl rfl rfl rfl (by rw [hz3]; omega) (by unfold maxLen; omega) (Nat.le_refl _) ?_; intro W1 hown hgr)
  have hb1 : Below w.heap.size w W1 := ⟨hgr.os, hgr.tape, hgr.output, hgr.size, fun k hk => hgr.block k hk (by simp)⟩
  have hx1 : ∀ j u, xs[j]? = some u → W1.cell? ⟨xb, j, none⟩ = some u := fun j u hj => cell_below hb1 (HX.out j u hj)
  have hr0 : RepAt W1 w.heap.size y 0 56 2 xs := by
    rcases hown.2 with ⟨e, _⟩ | ⟨g, cp, cur, e, _, h1, _, _, h4, _⟩
    · cases e
    · cases e; exact ⟨cur, h1, h4, by simp [rep]⟩
  clear hown
  obtain ⟨n0, hn0⟩ : ∃ n0, Nat.min 1 y = n0 := ⟨_, rfl⟩
  have hn0' : n0 ≤ y ∧ n0 ≤ 1 ∧ (0 < y → 0 < n0) := by
    have : n0 = min 1 y := hn0.symm
    omega
  obtain ⟨cur, r1, r2, r3⟩ := hr0
  have hcs : (rep n0 xs).length = Nat.min 1 y * 2 := by rw [rep_length, HL.out, hn0]
  have hsrc : ∀ j u, (rep n0 xs)[j]? = some u → W1.cell? ((⟨xb, 0, none⟩ : Addr).add j) = some u := by
    intro j u hj
    rw [add0]
    rcases (by omega : n0 = 0 ∨ n0 = 1) with e | e
    · rw [e, rep_zero] at hj; simp at hj
    · rw [e, rep_one] at hj; exact hx1 j u hj
  have hfit : 0 + (rep n0 xs).length ≤ cur.size := by
    have : n0 * 2 ≤ y * 2 := Nat.mul_le_mul_right _ hn0'.1
    rw [rep_length, HL.out, r2]; omega
  have H1 : Hid (W1.heap[w.heap.size]? = some (.cells cur 56 (0, 0))) := r1
  have H2 : Hid (cur.size = y * 2) := r2
  have H3 : Hid (cur.toList.take (0 * 2) = rep 0 xs) := r3
  have H4 : Hid ((rep n0 xs).length = Nat.min 1 y * 2) := hcs
  have H5 : Hid (∀ j u, (rep n0 xs)[j]? = some u → W1.cell? ((⟨xb, 0, none⟩ : Addr).add j) = some u) := hsrc
  have H6 : Hid (Nat.min 1 y = n0) := hn0
  clear r1 r2 r3 hcs hsrc hx1 hn0
  go_upto_region 8 with (refine wpList_copy_sz rfl (.tmp 31) (.tmp 32) 54 54 rfl 56 2 Yba.underlying54 HS.out w.heap.size 0 y y ⟨xb, 0, none⟩ 1 1 rfl rfl cur 56 H1.out (rep n0 xs) H4.out H5.out hfit (fun u hu => HO.out u (rep_mem hu)) w.heap.size w hb1 (Nat.le_refl _) ?_; rw [H6.out]; intro W2 hc2 hb2)
  have hr2 : RepAt W2 w.heap.size y n0 56 2 xs := by
    have := RepAt.grow (n := 0) (c := n0) H2.out H3.out HL.out (by omega) (by simpa using hc2.out)
    rwa [Nat.zero_add] at this
  clear hc2 H1 H2 H3 H4 H5 H6 hb1 hgr hfit cur
  go_loopw [8] (fun v wr => ∃ n : Nat, v = .int .i64 n ∧ n ≤ y ∧ (0 < y → 0 < n) ∧ RepAt wr w.heap.size y n 56 2 xs ∧ Below w.heap.size w wr) (fun v _ => y - (intOf v).toNat)
  case atStart => exact ⟨n0, rfl, hn0'.1, hn0'.2.2, hr2, hb2⟩
  case round =>
    clear hr2 hb2 hn0'
    obtain ⟨n, rfl, hny, hn0, hR, hB⟩ := hrel
    by_cases hlt : n < y
    · have t1 : (n : Int) < (y : Int) := by omega
      have t2 : (0 : Int) ≤ (n : Int) := by omega
      have t3 : (n : Int) ≤ (y : Int) := by omega
      have t4 : n ≤ y := by omega
      have t5 : ¬ y = n := by omega
      obtain ⟨cur, r1, r2, r3⟩ := hR
      obtain ⟨c, hc⟩ : ∃ c, Nat.min n (y - n) = c := ⟨_, rfl⟩
      have hc' : c ≤ n ∧ n + c ≤ y ∧ 0 < c := by
        have : c = min n (y - n) := hc.symm
        omega
      have hR' : RepAt wr.drew w.heap.size y n 56 2 xs := ⟨cur, r1, r2, r3⟩
      have H1 : Hid (wr.drew.heap[w.heap.size]? = some (.cells cur 56 (0, 0))) := r1
      have H2 : Hid (cur.size = y * 2) := r2
      have H3 : Hid (cur.toList.take (n * 2) = rep n xs) := r3
      have H6 : Hid (Nat.min n (y - n) = c) := hc
      have H4 : Hid ((rep c xs).length = Nat.min n (y - n) * 2) := (by rw [rep_length, HL.out, hc] : (rep c xs).length = Nat.min n (y - n) * 2)
      clear r1 r2 r3 hc
      have hfit : (n * 2) + (rep c xs).length ≤ cur.size := by
        rw [rep_length, HL.out, H2.out]; have := Nat.mul_le_mul_right 2 hc'.2.1; omega
      have t6 : (n : Int) + (c : Int) ≤ (y : Int) := by omega
      have t7 : (0 : Int) ≤ (c : Int) := by omega
      go_upto_region 9 with fail
      go_region_held3 (fun _ => True) (trivial) ((refine step_copy_sz (by rfl) (.tmp 41) (.tmp 44) 54 54 (by rfl) 56 2 Yba.underlying54 HS.out w.heap.size (n * 2) (y - n) (y - n) ⟨w.heap.size, 0, none⟩ n y (by rfl) (by rfl) cur 56 H1.out (rep c xs) H4.out (hR'.cells hc'.1) hfit (fun u hu => HO.out u (rep_mem hu)) w.heap.size w hB.drew (Nat.le_refl _) ?_; rw [H6.out]; intro W2 hc2 hb2))
      have hw : IntKind.i64.wrap ((n : Int) + (c : Int)) = ((n + c : Nat) : Int) := by rw [IntKind.wrap_i64]; omega
      rw [hw]
      clear hw
      go_wp2
      go_roundw
      case rel => exact ⟨n + c, rfl, hc'.2.1, fun _ => by omega, RepAt.grow H2.out H3.out HL.out hc'.2.1 (by simpa using hc2.out), hb2⟩
      case measure => simp [intOf]; omega
    · obtain rfl : n = y := by omega
      have hkk : ¬ ((n : Int) < (n : Int)) := by omega
      go_wp2
      go_ret
      exact ⟨w.heap.size, rfl, hB, Nat.le_refl _, hR.own (Nat.le_refl _) (by unfold maxLen; omega) HL.out⟩

theorem inf28 : (Yba.prog.info? 28).map (fun i => (i.zero, i.size, i.bytes)) = some (some (.agg #[.int .i64 0, .int .i64 0]), 2, 16) := by kernel_rfl

set_option maxHeartbeats 800000 in
set_option maxRecDepth 100000 in
theorem rep16 (xb y : Nat) (xs : List Value) (w : World) (hxs : xs.length = 2) (hone : ∀ u ∈ xs, u.oneCell' = true) (hx : ∀ j u, xs[j]? = some u → w.cell? ⟨xb, j, none⟩ = some u) (hy : y ≤ 10000) :
    Calls Yba.prog 16 #[.slice (some ⟨xb, 0, none⟩) 1 1, .int .i64 y] w fun e w' => ∃ g, e = .returned (.slice (some ⟨g, 0, none⟩) y y) ∧ Below w.heap.size w w' ∧ w.heap.size ≤ g ∧ w'.ownsRow w.heap.size 28 2 (.slice (some ⟨g, 0, none⟩) y y) y (rep y xs) := by
  obtain ⟨ie, hi, hz1, hz2, hz3⟩ := info_parts inf28
  have hsz : (Yba.prog.info? 28).map (·.size) = some 2 := by rw [hi]; simp [hz2]
  have y0 : ¬ (y : Int) < 0 := by omega
  have y1 : (y : Int) < 100000 := by omega
  have y2 : (0 : Int) ≤ (y : Int) := by omega
  have HX : Hid (∀ j u, xs[j]? = some u → w.cell? ⟨xb, j, none⟩ = some u) := hx
  have HO : Hid (∀ u ∈ xs, u.oneCell' = true) := hone
  have HL : Hid (xs.length = 2) := hxs
  have HS : Hid ((Yba.prog.info? 28).map (·.size) = some 2) := hsz
  clear hx hone hxs hsz
  go_enter Yba.func16, Yba.ntmps16
  go_wp2_with fail
  refine (mul26 y (by omega) _).mono ?_
  rintro e w2 ⟨rfl, hw2⟩
  rw [hw2]
  clear hw2 w2
  have y3 : decide ((9223372036854775807 : Int) < (y : Int)) = false := by simp; omega
  go_upto_if 26 with fail
  clear y3 y0
  go_upto_region 7 with (at_make; refine wpList_make_full _ rfl (.tmp 29) (.tmp 29) 57 rfl w.heap.size 28 ie _ 2 Yba.underlying57 hi hz1 hz2 .i64 .i64 (y : Int) (y : Int) y rfl rfl rfl rfl (by rw [hz3]; omega) (by unfold maxLen; omega) (Nat.le_refl _) ?_; intro W1 hown hgr)
  have hb1 : Below w.heap.size w W1 := ⟨hgr.os, hgr.tape, hgr.output, hgr.size, fun k hk => hgr.block k hk (by simp)⟩
  have hx1 : ∀ j u, xs[j]? = some u → W1.cell? ⟨xb, j, none⟩ = some u := fun j u hj => cell_below hb1 (HX.out j u hj)
  have hr0 : RepAt W1 w.heap.size y 0 28 2 xs := by
    rcases hown.2 with ⟨e, _⟩ | ⟨g, cp, cur, e, _, h1, _, _, h4, _⟩
    · cases e
    · cases e; exact ⟨cur, h1, h4, by simp [rep]⟩
  clear hown
  obtain ⟨n0, hn0⟩ : ∃ n0, Nat.min 1 y = n0 := ⟨_, rfl⟩
  have hn0' : n0 ≤ y ∧ n0 ≤ 1 ∧ (0 < y → 0 < n0) := by
    have : n0 = min 1 y := hn0.symm
    omega
  obtain ⟨cur, r1, r2, r3⟩ := hr0
  have hcs : (rep n0 xs).length = Nat.min 1 y * 2 := by rw [rep_length, HL.out, hn0]
  have hsrc : ∀ j u, (rep n0 xs)[j]? = some u → W1.cell? ((⟨xb, 0, none⟩ : Addr).add j) = some u := by
    intro j u hj
    rw [add0]
    rcases (by omega : n0 = 0 ∨ n0 = 1) with e | e
    · rw [e, rep_zero] at hj; simp at hj
    · rw [e, rep_one] at hj; exact hx1 j u hj
  have hfit : 0 + (rep n0 xs).length ≤ cur.size := by
    have : n0 * 2 ≤ y * 2 := Nat.mul_le_mul_right _ hn0'.1
    rw [rep_length, HL.out, r2]; omega
  have H1 : Hid (W1.heap[w.heap.size]? = some (.cells cur 28 (0, 0))) := r1
  have H2 : Hid (cur.size = y * 2) := r2
  have H3 : Hid (cur.toList.take (0 * 2) = rep 0 xs) := r3
  have H4 : Hid ((rep n0 xs).length = Nat.min 1 y * 2) := hcs
  have H5 : Hid (∀ j u, (rep n0 xs)[j]? = some u → W1.cell? ((⟨xb, 0, none⟩ : Addr).add j) = some u) := hsrc
  have H6 : Hid (Nat.min 1 y = n0) := hn0
  clear r1 r2 r3 hcs hsrc hx1 hn0
  go_upto_region 8 with (refine wpList_copy_sz rfl (.tmp 31) (.tmp 32) 57 57 rfl 28 2 Yba.underlying57 HS.out w.heap.size 0 y y ⟨xb, 0, none⟩ 1 1 rfl rfl cur 28 H1.out (rep n0 xs) H4.out H5.out hfit (fun u hu => HO.out u (rep_mem hu)) w.heap.size w hb1 (Nat.le_refl _) ?_; rw [H6.out]; intro W2 hc2 hb2)
  have hr2 : RepAt W2 w.heap.size y n0 28 2 xs := by
    have := RepAt.grow (n := 0) (c := n0) H2.out H3.out HL.out (by omega) (by simpa using hc2.out)
    rwa [Nat.zero_add] at this
  clear hc2 H1 H2 H3 H4 H5 H6 hb1 hgr hfit cur
  go_loopw [8] (fun v wr => ∃ n : Nat, v = .int .i64 n ∧ n ≤ y ∧ (0 < y → 0 < n) ∧ RepAt wr w.heap.size y n 28 2 xs ∧ Below w.heap.size w wr) (fun v _ => y - (intOf v).toNat)
  case atStart => exact ⟨n0, rfl, hn0'.1, hn0'.2.2, hr2, hb2⟩
  case round =>
    clear hr2 hb2 hn0'
    obtain ⟨n, rfl, hny, hn0, hR, hB⟩ := hrel
    by_cases hlt : n < y
    · have t1 : (n : Int) < (y : Int) := by omega
      have t2 : (0 : Int) ≤ (n : Int) := by omega
      have t3 : (n : Int) ≤ (y : Int) := by omega
      have t4 : n ≤ y := by omega
      have t5 : ¬ y = n := by omega
      obtain ⟨cur, r1, r2, r3⟩ := hR
      obtain ⟨c, hc⟩ : ∃ c, Nat.min n (y - n) = c := ⟨_, rfl⟩
      have hc' : c ≤ n ∧ n + c ≤ y ∧ 0 < c := by
        have : c = min n (y - n) := hc.symm
        omega
      have hR' : RepAt wr.drew w.heap.size y n 28 2 xs := ⟨cur, r1, r2, r3⟩
      have H1 : Hid (wr.drew.heap[w.heap.size]? = some (.cells cur 28 (0, 0))) := r1
      have H2 : Hid (cur.size = y * 2) := r2
      have H3 : Hid (cur.toList.take (n * 2) = rep n xs) := r3
      have H6 : Hid (Nat.min n (y - n) = c) := hc
      have H4 : Hid ((rep c xs).length = Nat.min n (y - n) * 2) := (by rw [rep_length, HL.out, hc] : (rep c xs).length = Nat.min n (y - n) * 2)
      clear r1 r2 r3 hc
      have hfit : (n * 2) + (rep c xs).length ≤ cur.size := by
        rw [rep_length, HL.out, H2.out]; have := Nat.mul_le_mul_right 2 hc'.2.1; omega
      have t6 : (n : Int) + (c : Int) ≤ (y : Int) := by omega
      have t7 : (0 : Int) ≤ (c : Int) := by omega
      go_upto_region 9 with fail
      go_region_held3 (fun _ => True) (trivial) ((refine step_copy_sz (by rfl) (.tmp 41) (.tmp 44) 57 57 (by rfl) 28 2 Yba.underlying57 HS.out w.heap.size (n * 2) (y - n) (y - n) ⟨w.heap.size, 0, none⟩ n y (by rfl) (by rfl) cur 28 H1.out (rep c xs) H4.out (hR'.cells hc'.1) hfit (fun u hu => HO.out u (rep_mem hu)) w.heap.size w hB.drew (Nat.le_refl _) ?_; rw [H6.out]; intro W2 hc2 hb2))
      have hw : IntKind.i64.wrap ((n : Int) + (c : Int)) = ((n + c : Nat) : Int) := by rw [IntKind.wrap_i64]; omega
      rw [hw]
      clear hw
      go_wp2
      go_roundw
      case rel => exact ⟨n + c, rfl, hc'.2.1, fun _ => by omega, RepAt.grow H2.out H3.out HL.out hc'.2.1 (by simpa using hc2.out), hb2⟩
      case measure => simp [intOf]; omega
    · obtain rfl : n = y := by omega
      have hkk : ¬ ((n : Int) < (n : Int)) := by omega
      go_wp2
      go_ret
      exact ⟨w.heap.size, rfl, hB, Nat.le_refl _, hR.own (Nat.le_refl _) (by unfold maxLen; omega) HL.out⟩

theorem inf68 : (Yba.prog.info? 68).map (fun i => (i.zero, i.size, i.bytes)) = some (some (.agg #[.slice none 0 0, .pointer none]), 2, 32) := by kernel_rfl

set_option maxHeartbeats 800000 in
set_option maxRecDepth 100000 in
theorem rep18 (xb y : Nat) (xs : List Value) (w : World) (hxs : xs.length = 2) (hone : ∀ u ∈ xs, u.oneCell' = true) (hx : ∀ j u, xs[j]? = some u → w.cell? ⟨xb, j, none⟩ = some u) (hy : y ≤ 10000) :
    Calls Yba.prog 18 #[.slice (some ⟨xb, 0, none⟩) 1 1, .int .i64 y] w fun e w' => ∃ g, e = .returned (.slice (some ⟨g, 0, none⟩) y y) ∧ Below w.heap.size w w' ∧ w.heap.size ≤ g ∧ w'.ownsRow w.heap.size 68 2 (.slice (some ⟨g, 0, none⟩) y y) y (rep y xs) := by
  obtain ⟨ie, hi, hz1, hz2, hz3⟩ := info_parts inf68
  have hsz : (Yba.prog.info? 68).map (·.size) = some 2 := by rw [hi]; simp [hz2]
  have y0 : ¬ (y : Int) < 0 := by omega
  have y1 : (y : Int) < 100000 := by omega
  have y2 : (0 : Int) ≤ (y : Int) := by omega
  have HX : Hid (∀ j u, xs[j]? = some u → w.cell? ⟨xb, j, none⟩ = some u) := hx
  have HO : Hid (∀ u ∈ xs, u.oneCell' = true) := hone
  have HL : Hid (xs.length = 2) := hxs
  have HS : Hid ((Yba.prog.info? 68).map (·.size) = some 2) := hsz
  clear hx hone hxs hsz
  go_enter Yba.func18, Yba.ntmps18
  go_wp2_with fail
  refine (mul26 y (by omega) _).mono ?_
  rintro e w2 ⟨rfl, hw2⟩
  rw [hw2]
  clear hw2 w2
  have y3 : decide ((9223372036854775807 : Int) < (y : Int)) = false := by simp; omega
  go_upto_if 26 with fail
  clear y3 y0
  go_upto_region 7 with (at_make; refine wpList_make_full _ rfl (.tmp 29) (.tmp 29) 58 rfl w.heap.size 68 ie _ 2 Yba.underlying58 hi hz1 hz2 .i64 .i64 (y : Int) (y : Int) y rfl rfl rfl rfl (by rw [hz3]; omega) (by unfold maxLen; omega) (Nat.le_refl _) ?_; intro W1 hown hgr)
  have hb1 : Below w.heap.size w W1 := ⟨hgr.os, hgr.tape, hgr.output, hgr.size, fun k hk => hgr.block k hk (by simp)⟩
  have hx1 : ∀ j u, xs[j]? = some u → W1.cell? ⟨xb, j, none⟩ = some u := fun j u hj => cell_below hb1 (HX.out j u hj)
  have hr0 : RepAt W1 w.heap.size y 0 68 2 xs := by
    rcases hown.2 with ⟨e, _⟩ | ⟨g, cp, cur, e, _, h1, _, _, h4, _⟩
    · cases e
    · cases e; exact ⟨cur, h1, h4, by simp [rep]⟩
  clear hown
  obtain ⟨n0, hn0⟩ : ∃ n0, Nat.min 1 y = n0 := ⟨_, rfl⟩
  have hn0' : n0 ≤ y ∧ n0 ≤ 1 ∧ (0 < y → 0 < n0) := by
    have : n0 = min 1 y := hn0.symm
    omega
  obtain ⟨cur, r1, r2, r3⟩ := hr0
  have hcs : (rep n0 xs).length = Nat.min 1 y * 2 := by rw [rep_length, HL.out, hn0]
  have hsrc : ∀ j u, (rep n0 xs)[j]? = some u → W1.cell? ((⟨xb, 0, none⟩ : Addr).add j) = some u := by
    intro j u hj
    rw [add0]
    rcases (by omega : n0 = 0 ∨ n0 = 1) with e | e
    · rw [e, rep_zero] at hj; simp at hj
    · rw [e, rep_one] at hj; exact hx1 j u hj
  have hfit : 0 + (rep n0 xs).length ≤ cur.size := by
    have : n0 * 2 ≤ y * 2 := Nat.mul_le_mul_right _ hn0'.1
    rw [rep_length, HL.out, r2]; omega
  have H1 : Hid (W1.heap[w.heap.size]? = some (.cells cur 68 (0, 0))) := r1
  have H2 : Hid (cur.size = y * 2) := r2
  have H3 : Hid (cur.toList.take (0 * 2) = rep 0 xs) := r3
  have H4 : Hid ((rep n0 xs).length = Nat.min 1 y * 2) := hcs
  have H5 : Hid (∀ j u, (rep n0 xs)[j]? = some u → W1.cell? ((⟨xb, 0, none⟩ : Addr).add j) = some u) := hsrc
  have H6 : Hid (Nat.min 1 y = n0) := hn0
  clear r1 r2 r3 hcs hsrc hx1 hn0
  go_upto_region 8 with (refine wpList_copy_sz rfl (.tmp 31) (.tmp 32) 58 58 rfl 68 2 Yba.underlying58 HS.out w.heap.size 0 y y ⟨xb, 0, none⟩ 1 1 rfl rfl cur 68 H1.out (rep n0 xs) H4.out H5.out hfit (fun u hu => HO.out u (rep_mem hu)) w.heap.size w hb1 (Nat.le_refl _) ?_; rw [H6.out]; intro W2 hc2 hb2)
  have hr2 : RepAt W2 w.heap.size y n0 68 2 xs := by
    have := RepAt.grow (n := 0) (c := n0) H2.out H3.out HL.out (by omega) (by simpa using hc2.out)
    rwa [Nat.zero_add] at this
  clear hc2 H1 H2 H3 H4 H5 H6 hb1 hgr hfit cur
  go_loopw [8] (fun v wr => ∃ n : Nat, v = .int .i64 n ∧ n ≤ y ∧ (0 < y → 0 < n) ∧ RepAt wr w.heap.size y n 68 2 xs ∧ Below w.heap.size w wr) (fun v _ => y - (intOf v).toNat)
  case atStart => exact ⟨n0, rfl, hn0'.1, hn0'.2.2, hr2, hb2⟩
  case round =>
    clear hr2 hb2 hn0'
    obtain ⟨n, rfl, hny, hn0, hR, hB⟩ := hrel
    by_cases hlt : n < y
    · have t1 : (n : Int) < (y : Int) := by omega
      have t2 : (0 : Int) ≤ (n : Int) := by omega
      have t3 : (n : Int) ≤ (y : Int) := by omega
      have t4 : n ≤ y := by omega
      have t5 : ¬ y = n := by omega
      obtain ⟨cur, r1, r2, r3⟩ := hR
      obtain ⟨c, hc⟩ : ∃ c, Nat.min n (y - n) = c := ⟨_, rfl⟩
      have hc' : c ≤ n ∧ n + c ≤ y ∧ 0 < c := by
        have : c = min n (y - n) := hc.symm
        omega
      have hR' : RepAt wr.drew w.heap.size y n 68 2 xs := ⟨cur, r1, r2, r3⟩
      have H1 : Hid (wr.drew.heap[w.heap.size]? = some (.cells cur 68 (0, 0))) := r1
      have H2 : Hid (cur.size = y * 2) := r2
      have H3 : Hid (cur.toList.take (n * 2) = rep n xs) := r3
      have H6 : Hid (Nat.min n (y - n) = c) := hc
      have H4 : Hid ((rep c xs).length = Nat.min n (y - n) * 2) := (by rw [rep_length, HL.out, hc] : (rep c xs).length = Nat.min n (y - n) * 2)
      clear r1 r2 r3 hc
      have hfit : (n * 2) + (rep c xs).length ≤ cur.size := by
        rw [rep_length, HL.out, H2.out]; have := Nat.mul_le_mul_right 2 hc'.2.1; omega
      have t6 : (n : Int) + (c : Int) ≤ (y : Int) := by omega
      have t7 : (0 : Int) ≤ (c : Int) := by omega
      go_upto_region 9 with fail
      go_region_held3 (fun _ => True) (trivial) ((refine step_copy_sz (by rfl) (.tmp 41) (.tmp 44) 58 58 (by rfl) 68 2 Yba.underlying58 HS.out w.heap.size (n * 2) (y - n) (y - n) ⟨w.heap.size, 0, none⟩ n y (by rfl) (by rfl) cur 68 H1.out (rep c xs) H4.out (hR'.cells hc'.1) hfit (fun u hu => HO.out u (rep_mem hu)) w.heap.size w hB.drew (Nat.le_refl _) ?_; rw [H6.out]; intro W2 hc2 hb2))
      have hw : IntKind.i64.wrap ((n : Int) + (c : Int)) = ((n + c : Nat) : Int) := by rw [IntKind.wrap_i64]; omega
      rw [hw]
      clear hw
      go_wp2
      go_roundw
      case rel => exact ⟨n + c, rfl, hc'.2.1, fun _ => by omega, RepAt.grow H2.out H3.out HL.out hc'.2.1 (by simpa using hc2.out), hb2⟩
      case measure => simp [intOf]; omega
    · obtain rfl : n = y := by omega
      have hkk : ¬ ((n : Int) < (n : Int)) := by omega
      go_wp2
      go_ret
      exact ⟨w.heap.size, rfl, hB, Nat.le_refl _, hR.own (Nat.le_refl _) (by unfold maxLen; omega) HL.out⟩
end Go.Proofs.Ybulkcmtm
