/- THE WALK OF LawS4432BBest (function 3), itself. -/
import Derived.Test.YbulkcmtmBestLaw
namespace Go.Proofs.Ybulkcmtm
open Go.RowKit Go.Shelf

/-- Offered to leaf i, and to be kept. -/
def wanted (n1 : Nat) (fo fa fb go : Nat → Nat) (o L i kn : Nat) (ks : Nat → Bool) : Nat → Bool := fun x => hitB n1 fo fa fb o L (go x % o) i && keepv kn ks x

def opt (b : Option Nat) : Int := match b with | none => -1 | some x => (x : Int)

theorem BI.bounds {T : Tree} {o m ex n i : Nat} {ko : Nat → Nat} {gp : Nat → Int} {cs : Nat → List (Int × Int)} (h : BI T o m ex n 300 ko gp cs) (ho4 : o ≤ 4) (hm : m ≤ 300) (hn : n ≤ m) (hex : ex ≤ 4) (hi : i < 2 ^ ex) :
    T.st.length ≤ 80000 ∧ (∀ k, (T.off.getD k []).length ≤ 1000) ∧ (∀ k, ∀ y ∈ T.off.getD k [], y.n ≤ 1000) ∧ (visits T (2 ^ ex + i)).length ≤ 100000000 := by
  have hst : T.st.length ≤ 19200 := by
    have hbd := h.bd
    have : 16 * 300 * o ≤ 16 * 300 * 4 := Nat.mul_le_mul_left _ ho4
    omega
  have hof : ∀ k, (T.off.getD k []).length ≤ 300 := by
    intro k
    by_cases hk : k < o
    · have h1 := Qu.WF.len (h.wf k hk)
      have h2 : (T.off.getD k []).length ≤ T.oAt.length := h1
      rw [h.al] at h2
      omega
    · rw [List.getD_eq_getElem?_getD, List.getElem?_eq_none (by rw [h.ol]; omega)]; simp
  have hhd : ∀ k, (T.hd.getD k []).length ≤ 19200 := by
    intro k
    by_cases hk : k < T.hd.length
    · have h1 := Qu.WF.len (h.hw.wf k hk)
      have h2 : (T.hd.getD k []).length ≤ T.sAt.length := h1
      rw [← h.hw.len] at h2
      omega
    · rw [List.getD_eq_getElem?_getD, List.getElem?_eq_none (by omega)]; simp
  have h2e : 2 ^ ex ≤ 16 := Nat.le_trans (Nat.pow_le_pow_right (by omega) hex) (by decide)
  have hv := visits_len T 300 19200 hof hhd 5 (2 ^ ex + i) (by omega)
  refine ⟨by omega, fun k => by have := hof k; omega, ?_, by omega⟩
  intro k y hy
  by_cases hk : k < o
  · have := ((h.mem k hk y).1 hy).1; omega
  · rw [List.getD_eq_getElem?_getD, List.getElem?_eq_none (by rw [h.ol]; omega)] at hy; cases hy

set_option maxHeartbeats 8000000 in
set_option maxRecDepth 100000 in
theorem law3_some (va vb vc : Nat) (sa ia ka : Option Addr) (n1 c1 m c2 kn kc : Nat) (fo fa fb go : Nat → Nat) (gp : Nat → Int) (ks : Nat → Bool) (w : World) (ha : va ≤ 255) (hb : vb ≤ 255) (hc : vc ≤ 255) (hn1 : n1 ≤ 300) (hm : m ≤ 300)
    (R3 : Row3 w w.heap.size sa n1 fo fa fb) (R2 : Row2 w w.heap.size ia m go gp) (R1 : Row1 w w.heap.size ka kn ks) :
    Calls Yba.prog 3 #[.int .u8 (va : Int), .int .u8 (vb : Int), .int .u8 (vc : Int), .slice sa n1 c1, .slice ia m c2, .slice ka kn kc] w fun e w' => e = .returned (.bool true) ∧ Below w.heap.size w w' := by
  have hnot : ∀ (x : Bool) (w : World), (Op.unary .not (.bool x)).run Yba.prog w = .ok (.bool (!x)) w := fun _ _ => rfl
  obtain ⟨L, hL⟩ : ∃ L, va % 16 + 1 = L := ⟨_, rfl⟩
  obtain ⟨o, ho⟩ : ∃ o, vb % 4 + 1 = o := ⟨_, rfl⟩
  obtain ⟨i, hi⟩ : ∃ i, vc % L = i := ⟨_, rfl⟩
  have hiL : i < L := by rw [← hi]; exact Nat.mod_lt _ (by omega)
  have e1 : (va : Int).tmod 16 = ((va % 16 : Nat) : Int) := by rw [Int.tmod_eq_emod_of_nonneg (by omega)]; omega
  have e2 : (vb : Int).tmod 4 = ((vb % 4 : Nat) : Int) := by rw [Int.tmod_eq_emod_of_nonneg (by omega)]; omega
  have e3 : (vc : Int).tmod (L : Int) = (i : Int) := by rw [Int.tmod_eq_emod_of_nonneg (by omega), ← hi]; omega
  have w1 : IntKind.i64.wrap (va : Int) = (va : Int) := by rw [IntKind.wrap_i64]; omega
  have w2 : IntKind.i64.wrap (vb : Int) = (vb : Int) := by rw [IntKind.wrap_i64]; omega
  have w3 : IntKind.i64.wrap (vc : Int) = (vc : Int) := by rw [IntKind.wrap_i64]; omega
  have w4 : IntKind.i64.wrap ((va % 16 : Nat) : Int) = ((va % 16 : Nat) : Int) := by rw [IntKind.wrap_i64]; omega
  have w5 : IntKind.i64.wrap ((vb % 4 : Nat) : Int) = ((vb % 4 : Nat) : Int) := by rw [IntKind.wrap_i64]; omega
  have w6 : IntKind.i64.wrap (1 + ((va % 16 : Nat) : Int)) = (L : Int) := by rw [IntKind.wrap_i64]; omega
  have w7 : IntKind.i64.wrap (1 + ((vb % 4 : Nat) : Int)) = (o : Int) := by rw [IntKind.wrap_i64]; omega
  have w8 : IntKind.i64.wrap (i : Int) = (i : Int) := by rw [IntKind.wrap_i64]; omega
  have hL0 : ¬ ((L : Int) = 0) := by omega
  have t1 : ¬ ((300 : Int) < (n1 : Int)) := by omega
  have t2 : ¬ ((300 : Int) < (m : Int)) := by omega
  have HN : Hid (n1 ≤ 300 ∧ m ≤ 300 ∧ 1 ≤ o ∧ o ≤ 4 ∧ 1 ≤ L ∧ L ≤ 16 ∧ i < L) := ⟨hn1, hm, by omega, by omega, by omega, by omega, hiL⟩
  obtain ⟨xa, hxa⟩ : ∃ xa, va % 16 = xa := ⟨_, rfl⟩
  obtain ⟨xb, hxb⟩ : ∃ xb, vb % 4 = xb := ⟨_, rfl⟩
  rw [hxa] at e1 w4 w6
  rw [hxb] at e2 w5 w7
  have H3 : Hid (Row3 w w.heap.size sa n1 fo fa fb) := R3
  have H2 : Hid (Row2 w w.heap.size ia m go gp) := R2
  have H1 : Hid (Row1 w w.heap.size ka kn ks) := R1
  clear R3 R2 R1 hn1 hm ha hb hc hL ho hi hxa hxb hiL
  go_enter Yba.func3, Yba.ntmps3
  go_upto_region 7 with fail
  go_wp2_with fail
  obtain ⟨w1', hw1⟩ : ∃ w1', w.alloc (.cells #[.slice ka kn kc] 24) = w1' := ⟨_, rfl⟩
  have hbw : Below w.heap.size w w1' := by rw [← hw1]; exact (Below.refl _ w).alloc (Nat.le_refl _) _
  have hkbc : w1'.cell? ⟨w.heap.size, 0, none⟩ = some (.slice ka kn kc) := by rw [← hw1]; simp
  have hsz1 : w.heap.size < w1'.heap.size := by rw [← hw1]; simp
  rw [hw1]
  obtain ⟨hn1, hm, ho1, ho4, hL1, hL16, hiL⟩ := HN.out
  refine (new5 L o m 0 0 w1' hL16 ho1 ho4 (by omega)).mono ?_
  rintro e W1 ⟨tb, ex, rfl, hLe, he4, l1, hT1, hb1⟩
  have hBI : BI (newTree (2 ^ ex) o m) o m ex 0 300 (fun x => go x % o) gp (csOf n1 fo fa fb o L) := new_bi rfl
  have Hi : Hid (i < 2 ^ ex ∧ ex ≤ 4 ∧ w.heap.size < w1'.heap.size) := ⟨by omega, he4, hsz1⟩
  clear hw1 hn1 hm ho1 ho4 hL1 hL16 hiL hLe he4 t1 t2 e1 e2 e3 w1 w2 w3 w4 w5 w6 w7 w8 hsz1
  go_wp2_with fail
  go_loopg [18] (m + 1) (fun gh v wr => ∃ (n : Nat) (T : Tree) (l : Lay), v = .int .i64 n ∧ n ≤ m ∧ TS wr w1'.heap.size tb T l ∧ BI T o m ex n 300 (fun x => go x % o) gp (csOf n1 fo fa fb o L) ∧ Below w1'.heap.size w1' wr ∧ m + 1 - n ≤ gh)
  case atStart => exact ⟨0, _, _, rfl, Nat.zero_le _, hT1, hBI, hb1, Nat.le_refl _⟩
  case round =>
    clear hT1 hBI hb1
    obtain ⟨n, T, l, rfl, hnm, hT, hI, hbr, hgh⟩ := hrel
    by_cases hlt : n < m
    · have t1 : (n : Int) < (m : Int) := by omega
      have t0 : (0 : Int) ≤ (n : Int) := by omega
      obtain ⟨hn1, hm, ho1, ho4, hL1, hL16, hiL⟩ := HN.out
      have hbw2 : Below w.heap.size w wr := hbw.trans (hbr.mono (Nat.le_of_lt Hi.out.2.2))
      obtain ⟨b, off, hia, hbN, c0, c1', g0, g1, g2⟩ := H2.out n hlt
      have d0 := (hbw2.cell (p := ⟨b, off + n * 2, none⟩) hbN).trans c0
      have d1 := (hbw2.cell (p := ⟨b, off + n * 2 + 1, none⟩) hbN).trans c1'
      have hbl : b < wr.heap.size := World.block_lt_of_cell? _ _ d0
      obtain ⟨k, hk⟩ : ∃ k, go n % o = k := ⟨_, rfl⟩
      have hko : k < o := by rw [← hk]; exact Nat.mod_lt _ (by omega)
      have hjn := join_b wr.drew sa n1 c1 o L w.heap.size n m ex fo fa fb (fun x => go x % o) gp hT.drew hI (H3.out.below ⟨hbw2.os, hbw2.tape, hbw2.output, hbw2.size, hbw2.block⟩) (Nat.le_of_lt Hi.out.2.2) hn1 ho1 ho4 hL16 hlt hm (by show go n % o < o; rw [hk]; exact hko) Hi.out.2.1
      rw [hk] at hjn
      obtain ⟨vg, hvg⟩ : ∃ vg, go n = vg := ⟨_, rfl⟩
      obtain ⟨vp, hvp⟩ : ∃ vp, gp n = vp := ⟨_, rfl⟩
      rw [hvg] at d0 g0 hk
      rw [hvp] at d1 g1 g2 hjn
      have HJ : Hid (Calls Yba.prog 6 #[.pointer (some ⟨tb, 0, none⟩), .int .i64 (k : Int), .int .i64 (n : Int), .agg #[.int .i64 vp, .int .i64 (n : Int)], .func (.func 23) #[] #[.pointer (some ⟨wr.drew.heap.size, 0, none⟩), .pointer (some ⟨wr.drew.heap.size + 1, 0, none⟩), .pointer (some ⟨wr.drew.heap.size + 3, 0, none⟩), .pointer (some ⟨wr.drew.heap.size + 2, 0, none⟩)]]
        ((((wr.drew.alloc (.cells #[.slice sa n1 c1] 22)).alloc (.cells #[.int .i64 o] 3)).alloc (.cells #[.int .i64 L] 3)).alloc (.cells #[.int .i64 (k : Int)] 3)) fun e W' => (∃ v, e = .returned v) ∧ ∃ T' l', TS W' w1'.heap.size tb T' l' ∧ BI T' o m ex (n + 1) 300 (fun x => go x % o) gp (csOf n1 fo fa fb o L) ∧ Below w1'.heap.size wr.drew W') := hjn
      have d2 : ((((wr.drew.alloc (.cells #[.slice sa n1 c1] 22)).alloc (.cells #[.int .i64 o] 3)).alloc (.cells #[.int .i64 L] 3)).alloc (.cells #[.int .i64 (k : Int)] 3)).cell? ⟨b, off + n * 2 + 1, none⟩ = some (.int .i8 vp) :=
        cell_below (W := wr.drew) (((((Below.refl _ wr.drew).alloc (Nat.le_refl _) _).alloc (by simp) _).alloc (by simp; omega) _).alloc (by simp; omega) _) d1
      have hb0 : ¬ (b = wr.heap.size) := by omega
      have hb1 : ¬ (b = wr.heap.size + 1) := by omega
      have hb2 : ¬ (b = wr.heap.size + 1 + 1) := by omega
      have hb3 : ¬ (b = wr.heap.size + 1 + 1 + 1) := by omega
      have hb4 : b < wr.heap.size + 1 := by omega
      have hb5 : b < wr.heap.size + 1 + 1 := by omega
      have hb6 : b < wr.heap.size + 1 + 1 + 1 := by omega
      have e4 : (vg : Int).tmod (o : Int) = (k : Int) := by rw [Int.tmod_eq_emod_of_nonneg (by omega), ← hk]; omega
      have ho0 : ¬ ((o : Int) = 0) := by omega
      have x1 : IntKind.i64.wrap (vg : Int) = (vg : Int) := by rw [IntKind.wrap_i64]; omega
      have x2 : IntKind.i64.wrap (k : Int) = (k : Int) := by rw [IntKind.wrap_i64]; omega
      have x3 : IntKind.i64.wrap vp = vp := by rw [IntKind.wrap_i64]; omega
      have x4 : IntKind.i64.wrap ((n : Int) + 1) = (n : Int) + 1 := by rw [IntKind.wrap_i64]; omega
      have HG : Hid (m + 1 - (n + 1) < m + 1 - n ∧ m + 1 - n ≤ _ ∧ n + 1 ≤ m) := ⟨by omega, hgh, by omega⟩
      have HBr : Hid (Below w1'.heap.size w1' wr) := hbr
      subst hia
      clear hjn hk hvg hvp c0 c1' g0 g1 g2 hko hn1 hm ho1 ho4 hL1 hL16 hiL hgh hbw2 hbr hT hI hbN
      go_upto_region 12 with fail
      go_region_with ((first | (go_at_call 7; refine (cover7 _ _ _ _ _ _ _).mono ?_; rintro e W7 ⟨rfl, rfl⟩) | (go_at_call 6; refine HJ.out.mono ?_; rintro e W8 ⟨⟨u, rfl⟩, T', l', hT', hI', hB'⟩)))
      all_goals
        have hbr2 : Below w1'.heap.size w1' W8 := HBr.out.trans ⟨hB'.os, hB'.tape, hB'.output, hB'.size, hB'.block⟩
        clear HJ d0 d1 hB'
        go_wp2
        go_roundg (m + 1 - (n + 1))
        case measure => exact Nat.lt_of_lt_of_le HG.out.1 HG.out.2.1
        case rel => exact ⟨n + 1, T', l', rfl, HG.out.2.2, hT', hI', hbr2, Nat.le_refl _⟩
    · have t1 : ¬ ((n : Int) < (m : Int)) := by omega
      obtain rfl : n = m := by omega
      obtain ⟨hn1, hm, ho1, ho4, hL1, hL16, hiL⟩ := HN.out
      obtain ⟨hi2, he4, hsz1⟩ := Hi.out
      obtain ⟨b1, b2, b3, b4⟩ := hI.bounds (i := i) ho4 hm (Nat.le_refl _) he4 hi2
      have hbw2 : Below w.heap.size w wr := hbw.trans (hbr.mono (Nat.le_of_lt hsz1))
      have hkbr : wr.cell? ⟨w.heap.size, 0, none⟩ = some (.slice ka kn kc) := (hbr.cell (p := ⟨w.heap.size, 0, none⟩) hsz1).trans hkbc
      have hbl : Below wr.heap.size wr (wr.alloc (.cells #[.slice none 0 0] 36)) := (Below.refl _ _).alloc (Nat.le_refl _) _
      have hkl : w.heap.size < wr.heap.size := Nat.lt_of_lt_of_le hsz1 hbr.size
      have hlog0 : LogAt (wr.alloc (.cells #[.slice none 0 0] 36)) wr.heap.size wr.heap.size (.slice none 0 0) [] := ⟨World.alloc_heap_new _ _, World.ownsRow_nil _ _ _ _⟩
      have hbest := best_of hI hi2 (fun x _ => Nat.mod_lt _ (by omega)) (keepv kn ks)
      have h8 := bestWhere8 (wr.alloc (.cells #[.slice none 0 0] 36)) (hT.below hbl) hI.hw wr.heap.size wr.heap.size w.heap.size w.heap.size i ex (.slice none 0 0) ka kn kc ks (fun j hj => hT.owned_lt hj) hT.tb_lt hlog0 (Nat.le_refl _) (cell_below hbl hkbr) hkl ((H1.out.below hbw2).below (hbl.mono (Nat.le_of_lt hkl))) (Nat.le_of_lt hkl) hI.lv he4 hi2 hI.hd b1 b2 b3 b4
      obtain ⟨fin, hfin⟩ : ∃ fin, Bw.init.run (keepv kn ks) (visits T (2 ^ ex + i)) = fin := ⟨_, rfl⟩
      rw [hfin] at h8 hbest
      have hll : fin.log.length ≤ 100000000 := by
        have := Bw.run_log_len (keepv kn ks) (visits T (2 ^ ex + i)) Bw.init
        rw [hfin] at this
        have e : Bw.init.log.length = 0 := rfl
        omega
      have HB1 : Hid (IsBest n (wanted n1 fo fa fb go o L i kn ks) gp (fin.it.map Held.n)) := hbest.1
      have HB2 : Hid (fin.log ≠ [] ↔ ∃ x, x < n ∧ hitB n1 fo fa fb o L (go x % o) i = true) := hbest.2.1
      have HB3 : Hid (∀ x ∈ fin.log, x < n ∧ hitB n1 fo fa fb o L (go x % o) i = true) := hbest.2.2
      have HLL : Hid (fin.log.length ≤ 100000000) := hll
      have H8 := h8
      have HW : Hid (Below w.heap.size w wr ∧ w.heap.size < wr.heap.size ∧ wr.cell? ⟨w.heap.size, 0, none⟩ = some (.slice ka kn kc)) := ⟨hbw2, hkl, hkbr⟩
      clear h8 hbest hfin b1 b2 b3 b4 hlog0 hbl hI hT hbr hn1 hm ho1 ho4 hL1 hL16 hiL hi2 he4 hsz1 hgh hll hkbc hbw
      go_wp2_with fail
      refine H8.mono ?_
      rintro e W8 ⟨rfl, v, hlog, hb8⟩
      clear H8
      obtain ⟨hbw2, hkl, hkbr⟩ := HW.out
      have hbW : Below wr.heap.size wr W8 := ⟨hb8.os, hb8.tape, hb8.output, by have := hb8.size; simp at this; omega, fun k hk => (hb8.block k hk).trans (Below.heap_alloc wr _ k hk)⟩
      have hb0W : Below w.heap.size w W8 := hbw2.trans (hbW.mono (Nat.le_of_lt hkl))
      have hk8 : W8.cell? ⟨w.heap.size, 0, none⟩ = some (.slice ka kn kc) := (hbW.cell (p := ⟨w.heap.size, 0, none⟩) hkl).trans hkbr
      have H3' : Hid (Row3 W8 w.heap.size sa n1 fo fa fb) := H3.out.below hb0W
      have H2' : Hid (Row2 W8 w.heap.size ia n go gp) := H2.out.below hb0W
      have H1' : Hid (Row1 W8 w.heap.size ka kn ks) := H1.out.below hb0W
      have HLog : Hid (LogAt W8 wr.heap.size wr.heap.size v fin.log) := hlog
      have HOld : Hid (Below w.heap.size w W8) := hb0W
      have hws : w.heap.size ≤ W8.heap.size := hb0W.size
      clear hbw2 hkl hkbr hbW hb0W hlog hb8 HW H1 H2 H3
      go_wp2_with fail
      obtain ⟨lbx, hlbx⟩ : ∃ lbx, wr.heap.size = lbx := ⟨_, rfl⟩
      rw [hlbx] at HLog ⊢
      clear hlbx
      go_loopg [23, 24, 25] (n + 1) (fun gh bv av nv wx => ∃ (x : Nat) (b : Option Nat) (an : Bool), bv = .int .i64 (opt b) ∧ av = .bool an ∧ nv = .int .i64 x ∧ x ≤ n ∧ Hid (IsBest x (wanted n1 fo fa fb go o L i kn ks) gp b) ∧ Hid (an = true ↔ ∃ y, y < x ∧ hitB n1 fo fa fb o L (go y % o) i = true) ∧ Below W8.heap.size W8 wx ∧ n + 1 - x ≤ gh)
      case atStart => exact ⟨0, none, false, rfl, rfl, rfl, Nat.zero_le _, (fun y hy => absurd hy (by omega) : IsBest 0 _ gp none), (⟨fun h => (by cases h), fun ⟨y, hy, _⟩ => absurd hy (by omega)⟩ : (false = true) ↔ _), Below.refl _ _, Nat.le_refl _⟩
      case round =>
        obtain ⟨x, b, an, rfl, rfl, rfl, hxn, HIB, HAN, hbx, hgx⟩ := hrel
        by_cases hxlt : x < n
        · have t2 : (x : Int) < (n : Int) := by omega
          have t3 : (0 : Int) ≤ (x : Int) := by omega
          obtain ⟨hn1, hm, ho1, ho4, hL1, hL16, hiL⟩ := HN.out
          obtain ⟨bb, off, hia, hbN, c0, c1', g0, g1, g2⟩ := H2'.out x hxlt
          have d0 := cell_below hbx c0
          have d1 := cell_below hbx c1'
          have dk := cell_below hbx hk8
          have hwx : w.heap.size ≤ wr.heap.size := Nat.le_trans hws hbx.size
          have R3x := H3'.out.below (hbx.mono hws)
          obtain ⟨k, hk⟩ : ∃ k, go x % o = k := ⟨_, rfl⟩
          have hk4 : k ≤ 100 := by have := Nat.mod_lt (go x) (show 0 < o by omega); omega
          have h11 := offered11 sa n1 c1 w.heap.size o L k i fo fa fb wr R3x hn1 ho1 ho4 hL16 (by omega) hk4
          have e4 : (go x : Int).tmod (o : Int) = (k : Int) := by rw [Int.tmod_eq_emod_of_nonneg (by omega), ← hk]; omega
          have ho0 : ¬ ((o : Int) = 0) := by omega
          have x1 : IntKind.i64.wrap (go x : Int) = (go x : Int) := by rw [IntKind.wrap_i64]; omega
          have x2 : IntKind.i64.wrap (k : Int) = (k : Int) := by rw [IntKind.wrap_i64]; omega
          have x3 : IntKind.i64.wrap (gp x) = gp x := by rw [IntKind.wrap_i64]; omega
          have x4 : IntKind.i64.wrap ((x : Int) + 1) = (x : Int) + 1 := by rw [IntKind.wrap_i64]; omega
          have HGx : Hid (n + 1 - (x + 1) < n + 1 - x ∧ n + 1 - x ≤ _ ∧ x + 1 ≤ n) := ⟨by omega, hgx, by omega⟩
          have HX3 : Hid (x ≤ 100000) := (by omega : x ≤ 100000)
          have hPx : Hid ((wanted n1 fo fa fb go o L i kn ks) x = (hitB n1 fo fa fb o L k i && keepv kn ks x)) := (by simp only [wanted, hk] : (wanted n1 fo fa fb go o L i kn ks) x = (hitB n1 fo fa fb o L k i && keepv kn ks x))
          have hA1 : Hid (hitB n1 fo fa fb o L k i = false → (an = true ↔ ∃ y, y < x + 1 ∧ hitB n1 fo fa fb o L (go y % o) i = true)) := by
            show _ → _
            intro hf
            rw [HAN.out]
            constructor
            · rintro ⟨y, h1, h2⟩; exact ⟨y, by omega, h2⟩
            · rintro ⟨y, h1, h2⟩
              refine ⟨y, ?_, h2⟩
              rcases Nat.lt_or_ge y x with e | e
              · exact e
              · have : y = x := by omega
                rw [this, hk, hf] at h2; cases h2
          have hA2 : Hid (hitB n1 fo fa fb o L k i = true → ∃ y, y < x + 1 ∧ hitB n1 fo fa fb o L (go y % o) i = true) := fun ht => ⟨x, by omega, by rw [hk]; exact ht⟩
          subst hia
          have hbl : bb < wr.heap.size := World.block_lt_of_cell? _ _ d0
          clear hgx c0 c1' g0 g1 g2 hn1 hm ho1 ho4 hL1 hL16 hiL hk hk4 R3x
          have HH11 := h11
          clear h11
          go_wp2_with fail
          refine HH11.mono ?_
          rintro e W2 ⟨rfl, hb2⟩
          clear HH11
          have hbx2 : Below W8.heap.size W8 W2 := hbx.trans (hb2.mono hbx.size)
          have dk2 := cell_below hb2 dk
          have d12 := cell_below hb2 d1
          cases hh : hitB n1 fo fa fb o L k i with
          | false =>
            have HIB2 : Hid (IsBest (x + 1) (wanted n1 fo fa fb go o L i kn ks) gp b) := HIB.out.skip (by rw [hPx.out, hh]; rfl)
            have HAN2 : Hid (an = true ↔ ∃ y, y < x + 1 ∧ hitB n1 fo fa fb o L (go y % o) i = true) := hA1.out hh
            clear hA1 hA2 hPx HIB HAN d0 d1 dk dk2 d12
            go_wp2
            go_roundg (n + 1 - (x + 1))
            case measure => exact Nat.lt_of_lt_of_le HGx.out.1 HGx.out.2.1
            case rel => exact ⟨x + 1, b, an, rfl, rfl, rfl, HGx.out.2.2, HIB2, HAN2, hbx2, Nat.le_refl _⟩
          | true =>
            have HAN2 : Hid (∃ y, y < x + 1 ∧ hitB n1 fo fa fb o L (go y % o) i = true) := hA2.out hh
            have R1x := H1'.out.below (hbx2.mono hws)
            have HK10 := keep10 ka kn kc x w.heap.size ks W2 R1x HX3.out
            clear R1x hA1 hA2 HAN d0 d1 dk
            go_wp2_with fail
            refine HK10.mono ?_
            rintro e W3 ⟨rfl, rfl⟩
            clear HK10
            cases hkp : keepv kn ks x with
            | false =>
              have HIB2 : Hid (IsBest (x + 1) (wanted n1 fo fa fb go o L i kn ks) gp b) := HIB.out.skip (by rw [hPx.out, hh, hkp]; rfl)
              clear hPx HIB dk2 d12
              go_wp2
              go_roundg (n + 1 - (x + 1))
              case measure => exact Nat.lt_of_lt_of_le HGx.out.1 HGx.out.2.1
              case rel => exact ⟨x + 1, b, true, rfl, rfl, rfl, HGx.out.2.2, HIB2, (⟨fun _ => HAN2.out, fun _ => rfl⟩ : true = true ↔ _), hbx2, Nat.le_refl _⟩
            | true =>
              have hP : (wanted n1 fo fa fb go o L i kn ks) x = true := by rw [hPx.out, hh, hkp]; rfl
              cases b with
              | none =>
                have HIB2 : Hid (IsBest (x + 1) (wanted n1 fo fa fb go o L i kn ks) gp (some x)) := HIB.out.first hP
                have hop : opt none = -1 := rfl
                rw [hop]
                clear hPx HIB dk2 d12 hP hop
                go_wp2
                go_roundg (n + 1 - (x + 1))
                case measure => exact Nat.lt_of_lt_of_le HGx.out.1 HGx.out.2.1
                case rel => exact ⟨x + 1, some x, true, rfl, rfl, rfl, HGx.out.2.2, HIB2, (⟨fun _ => HAN2.out, fun _ => rfl⟩ : true = true ↔ _), hbx2, Nat.le_refl _⟩
              | some z =>
                have hop : opt (some z) = (z : Int) := rfl
                have hzx : z < x := HIB.out.1
                have HIB2 : Hid (IsBest (x + 1) (wanted n1 fo fa fb go o L i kn ks) gp (if gp z < gp x then some x else some z)) := HIB.out.next hP
                obtain ⟨b', off', e', hbN', c0', c1'', g0', g1', g2'⟩ := H2'.out z (by omega)
                cases e'
                have dz : W3.cell? ⟨bb, off + z * 2 + 1, none⟩ = some (.int .i8 (gp z)) := cell_below hbx2 c1''
                have x5 : IntKind.i64.wrap (gp z) = gp z := by rw [IntKind.wrap_i64]; omega
                have z0 : ¬ ((z : Int) < 0) := by omega
                have z1 : (0 : Int) ≤ (z : Int) := by omega
                have z2 : (z : Int) < (n : Int) := by omega
                have z3 : ¬ ((x : Int) < (z : Int)) := by omega
                rw [hop]
                clear hPx HIB dk2 hP hop c0' c1'' g0' g1' g2' hzx hbN'
                go_upto_region 26 with fail
                go_quiet (fail)
                generalize hWq : World.drewN W3 _ = Wq
                have hbq : Below W8.heap.size W8 Wq := by rw [← hWq]; exact ⟨hbx2.os, hbx2.tape, hbx2.output, hbx2.size, hbx2.block⟩
                clear hWq d12 dz
                by_cases q1 : gp z < gp x
                · have HIB3 : Hid (IsBest (x + 1) (wanted n1 fo fa fb go o L i kn ks) gp (some x)) := (by have := HIB2.out; rwa [if_pos q1] at this : IsBest (x + 1) (wanted n1 fo fa fb go o L i kn ks) gp (some x))
                  clear HIB2
                  go_wp2
                  go_roundg (n + 1 - (x + 1))
                  case measure => exact Nat.lt_of_lt_of_le HGx.out.1 HGx.out.2.1
                  case rel => exact ⟨x + 1, some x, true, rfl, rfl, rfl, HGx.out.2.2, HIB3, (⟨fun _ => HAN2.out, fun _ => rfl⟩ : true = true ↔ _), hbq, Nat.le_refl _⟩
                · have HIB3 : Hid (IsBest (x + 1) (wanted n1 fo fa fb go o L i kn ks) gp (some z)) := (by have := HIB2.out; rwa [if_neg q1] at this : IsBest (x + 1) (wanted n1 fo fa fb go o L i kn ks) gp (some z))
                  clear HIB2
                  by_cases q2 : gp x = gp z
                  · go_wp2
                    go_roundg (n + 1 - (x + 1))
                    case measure => exact Nat.lt_of_lt_of_le HGx.out.1 HGx.out.2.1
                    case rel => exact ⟨x + 1, some z, true, rfl, rfl, rfl, HGx.out.2.2, HIB3, (⟨fun _ => HAN2.out, fun _ => rfl⟩ : true = true ↔ _), hbq, Nat.le_refl _⟩
                  · go_wp2
                    go_roundg (n + 1 - (x + 1))
                    case measure => exact Nat.lt_of_lt_of_le HGx.out.1 HGx.out.2.1
                    case rel => exact ⟨x + 1, some z, true, rfl, rfl, rfl, HGx.out.2.2, HIB3, (⟨fun _ => HAN2.out, fun _ => rfl⟩ : true = true ↔ _), hbq, Nat.le_refl _⟩
        · have t2 : ¬ ((x : Int) < (n : Int)) := by omega
          obtain rfl : x = n := by omega
          have hbeq : fin.it.map Held.n = b := HB1.out.uniq HIB.out
          have hitv : itv fin = opt b := by rw [← hbeq]; unfold itv opt; cases fin.it <;> rfl
          have hsome : fin.it.isSome = decide ((0 : Int) ≤ opt b) := by
            rw [← hbeq]; unfold opt; cases fin.it <;> simp
          obtain ⟨a, c, hv⟩ := slice_form HLog.out.row
          obtain ⟨Ln, hLn⟩ : ∃ Ln, fin.log.length = Ln := ⟨_, rfl⟩
          have hlx : LogAt wr lbx lbx v fin.log := HLog.out.keep (S := fun _ => False) (Touch.below hbx) (fun x => x) (fun _ _ x => x)
          have cl : wr.cell? ⟨lbx, 0, none⟩ = some (.slice a Ln c) := by rw [← hLn, ← hv]; simp [World.cell?, hlx.box]
          have han : an = decide ((0 : Int) < (Ln : Int)) := by
            have h1 := HAN.out
            rw [← HB2.out] at h1
            cases an with
            | true =>
              have h2 := h1.1 rfl
              have : 0 < Ln := by rw [← hLn]; exact List.length_pos_iff.2 h2
              simp [this]
            | false =>
              have h2 : ¬ (fin.log ≠ []) := fun hx => by have := h1.2 hx; cases this
              have h3 : fin.log = [] := Classical.byContradiction h2
              have : Ln = 0 := by rw [← hLn, h3]; rfl
              simp [this]
          have HLw : Hid (wr.ownsRow lbx 3 1 (.slice a Ln c) Ln (nats fin.log)) := by
            have := hlx.row
            rw [hv, hLn] at this
            exact this
          have HLn : Hid (fin.log.length = Ln ∧ Ln ≤ 100000000) := ⟨hLn, by rw [← hLn]; exact HLL.out⟩
          rw [hitv, hsome, han]
          clear hbeq hitv hsome hv hlx han HIB HAN HB1 HB2 HLL hLn
          have HOld2 : Hid (Below w.heap.size w wr) := HOld.out.trans (hbx.mono hws)
          go_wp2_with fail
          go_loopg [29] (Ln + 1) (fun gh jv wx => ∃ j : Nat, jv = .int .i64 j ∧ j ≤ Ln ∧ Below wr.heap.size wr wx ∧ Ln + 1 - j ≤ gh)
          case atStart => exact ⟨0, rfl, Nat.zero_le _, Below.refl _ _, Nat.le_refl _⟩
          case round =>
            obtain ⟨j, rfl, hjL, hbj, hgj⟩ := hrel
            have cl2 := cell_below hbj cl
            by_cases hjlt : j < Ln
            · have t4 : (j : Int) < (Ln : Int) := by omega
              have t5 : (0 : Int) ≤ (j : Int) := by omega
              have hjl : j < fin.log.length := by rw [HLn.out.1]; exact hjlt
              obtain ⟨g, c', hg, -⟩ := HLw.out.form (by omega)
              obtain rfl : a = some ⟨g, 0, none⟩ := (Value.slice.inj hg).1
              obtain ⟨y, hy⟩ : ∃ y, fin.log[j] = y := ⟨_, rfl⟩
              obtain ⟨hyn, hyh⟩ := HB3.out y (by rw [← hy]; exact List.getElem_mem hjl)
              have cy : wr.cell? ⟨g, j, none⟩ = some (.int .i64 (y : Int)) := cell_below hbj (own_cell HLw.out rfl (by simp [nats, ints, List.getElem?_eq_getElem hjl, hy]))
              obtain ⟨bb, off, hia, hbN, c0, c1', g0, g1, g2⟩ := H2'.out y hyn
              have hbz := hbx.trans (hbj.mono hbx.size)
              have d0 := cell_below hbz c0
              have R3x := H3'.out.below (hbz.mono hws)
              obtain ⟨hn1, hm, ho1, ho4, hL1, hL16, hiL⟩ := HN.out
              obtain ⟨k, hk⟩ : ∃ k, go y % o = k := ⟨_, rfl⟩
              have hk4 : k ≤ 100 := by have := Nat.mod_lt (go y) (show 0 < o by omega); omega
              have H11 := offered11 sa n1 c1 w.heap.size o L k i fo fa fb wr R3x hn1 ho1 ho4 hL16 (by omega) hk4
              rw [hk] at hyh
              rw [hyh] at H11
              have e4 : (go y : Int).tmod (o : Int) = (k : Int) := by rw [Int.tmod_eq_emod_of_nonneg (by omega), ← hk]; omega
              have ho0 : ¬ ((o : Int) = 0) := by omega
              have x1 : IntKind.i64.wrap (go y : Int) = (go y : Int) := by rw [IntKind.wrap_i64]; omega
              have x2 : IntKind.i64.wrap (k : Int) = (k : Int) := by rw [IntKind.wrap_i64]; omega
              have x4 : IntKind.i64.wrap ((j : Int) + 1) = (j : Int) + 1 := by have := HLn.out.2; rw [IntKind.wrap_i64]; omega
              have y0 : ¬ ((y : Int) < 0) := by omega
              have y1 : ¬ ((x : Int) ≤ (y : Int)) := by omega
              have y2 : (0 : Int) ≤ (y : Int) := by omega
              have y3 : (y : Int) < (x : Int) := by omega
              have HGj : Hid (Ln + 1 - (j + 1) < Ln + 1 - j ∧ Ln + 1 - j ≤ _ ∧ j + 1 ≤ Ln) := ⟨by omega, hgj, by omega⟩
              subst hia
              clear hgj c0 c1' g0 g1 g2 hn1 hm ho1 ho4 hL1 hL16 hiL hk hk4 R3x hyh hyn hy hjl hg hbN hbz
              go_wp2_with fail
              refine H11.mono ?_
              rintro e W4 ⟨rfl, hb4⟩
              have hbj2 := hbj.trans (hb4.mono hbj.size)
              clear H11
              go_wp2
              go_roundg (Ln + 1 - (j + 1))
              case measure => exact Nat.lt_of_lt_of_le HGj.out.1 HGj.out.2.1
              case rel => exact ⟨j + 1, rfl, HGj.out.2.2, hbj2, Nat.le_refl _⟩
            · have t4 : ¬ ((j : Int) < (Ln : Int)) := by omega
              have hfin := HOld2.out.trans (hbj.mono (Nat.le_trans hws hbx.size))
              go_wp2
              go_ret
              exact ⟨rfl, hfin⟩
end Go.Proofs.Ybulkcmtm
