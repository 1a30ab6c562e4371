/- newOfferTree. -/
import Derived.Test.YbulkcmtmTree
import Derived.Test.YbulkcmtmRepeat
import Derived.Deep.DeepCutAuto
import Derived.Deep.LoopGhost
namespace Go.Proofs.Ybulkcmtm
open Go.RowKit

theorem rep_cells {w : World} {b : Nat} {cs : Array Value} {t : TypeId} (h : w.heap[b]? = some (.cells cs t (0, 0))) : ∀ j u, cs.toList[j]? = some u → w.cell? ⟨b, j, none⟩ = some u := by
  intro j u hj
  simpa [World.cell?, h] using hj

theorem own_base {w : World} {base base' size n : Nat} {e : TypeId} {v : Value} {xs : List Value} (h : w.ownsRow base e size v n xs) (hb : base' ≤ base) : w.ownsRow base' e size v n xs := by
  refine ⟨h.1, ?_⟩
  rcases h.2 with h0 | ⟨g, cap, cur, rfl, h1, r⟩
  · exact .inl h0
  · exact .inr ⟨g, cap, cur, rfl, Nat.le_trans hb h1, r⟩

/-- THE TREE WHILE IT IS MADE: its block tb, whole; the box of 'held'. -/
structure NT (w wx : World) (tb : Nat) (cs : Array Value) (p q : Int) : Prop where
  blk : wx.heap[tb]? = some (.cells cs 61 (0, 0))
  old : Below w.heap.size w wx
  lo : w.heap.size ≤ tb
  h0 : wx.cell? ⟨w.heap.size, 0, none⟩ = some (.int .i64 p)
  h1 : wx.cell? ⟨w.heap.size, 1, none⟩ = some (.int .i64 q)
  ne : w.heap.size ≠ tb

section
variable {w wx : World} {tb : Nat} {cs : Array Value} {p q : Int}
theorem NT.cell (h : NT w wx tb cs p q) {j : Nat} {u : Value} (hj : cs[j]? = some u) : wx.cell? ⟨tb, j, none⟩ = some u := by simp [World.cell?, h.blk, hj]
theorem NT.frz (h : NT w wx tb cs p q) (j : Nat) : wx.frozen? ⟨tb, j, none⟩ = false := by simp [World.frozen?, h.blk]
theorem NT.set (h : NT w wx tb cs p q) (j : Nat) (u : Value) : NT w (wx.setCell ⟨tb, j, none⟩ u) tb (cs.setIfInBounds j u) p q := by
  have hb : (wx.setCell ⟨tb, j, none⟩ u).heap[w.heap.size]? = wx.heap[w.heap.size]? := Below.heap_setCell _ _ _ _ h.ne
  refine ⟨?_, h.old.setCell (p := ⟨tb, j, none⟩) h.lo u, h.lo, (World.cell?_of_block (a := ⟨w.heap.size, 0, none⟩) hb).trans h.h0, (World.cell?_of_block (a := ⟨w.heap.size, 1, none⟩) hb).trans h.h1, h.ne⟩
  show (wx.heap.modify tb _)[tb]? = _
  rw [Array.getElem?_modify, if_pos rfl, h.blk]
  simp
theorem NT.below {w' : World} (h : NT w wx tb cs p q) (hb : Below wx.heap.size wx w') : NT w w' tb cs p q :=
  ⟨(hb.block _ (Array.getElem?_eq_some_iff.1 h.blk).1).trans h.blk, h.old.trans (hb.mono h.old.size), h.lo, cell_below hb h.h0, cell_below hb h.h1, h.ne⟩
theorem NT.drew (h : NT w wx tb cs p q) : NT w wx.drew tb cs p q := ⟨h.blk, h.old.drew, h.lo, h.h0, h.h1, h.ne⟩
end

/-- A new tree. -/
def newTree (lv o m : Nat) : Tree := ⟨lv, List.replicate o [], List.replicate m (-1), List.replicate (2 * lv) [], [], [], List.replicate o (-1, -1)⟩

theorem rep_qrow (n : Nat) (p : Value) : rep n [.slice none 0 0, p] = qrow (List.replicate n nilS) p := by
  induction n with
  | zero => rfl
  | succ n ih => rw [Nat.add_comm, rep_add, ih, rep_one, Nat.add_comm, List.replicate_succ, qrow_cons]; rfl
theorem rep_ints (n : Nat) (x : Int) : rep n [.int .i64 x] = ints (List.replicate n x) := by
  induction n with
  | zero => rfl
  | succ n ih => rw [Nat.add_comm, rep_add, ih, rep_one, Nat.add_comm, List.replicate_succ]; rfl
theorem rep_pairs (n : Nat) (x y : Int) : rep n [.int .i64 x, .int .i64 y] = pairs (List.replicate n (x, y)) := by
  induction n with
  | zero => rfl
  | succ n ih => rw [Nat.add_comm, rep_add, ih, rep_one, Nat.add_comm, List.replicate_succ]; rfl

theorem new_qr {W : World} {base tb ao n g : Nat} (h : W.ownsRow base 68 2 (.slice (some ⟨g, 0, none⟩) n n) n (rep n [.slice none 0 0, .pointer (some ⟨tb, ao, none⟩)])) : QR W base tb ao (.slice (some ⟨g, 0, none⟩) n n) (List.replicate n nilS) (List.replicate n []) := by
  have gi : ∀ k, (List.replicate n nilS).getD k nilS = nilS := fun k => by simp [List.getD, List.getElem?_replicate]; split <;> rfl
  have gq : ∀ k, (List.replicate n ([] : List Held)).getD k [] = [] := fun k => by simp [List.getD, List.getElem?_replicate]; split <;> rfl
  refine ⟨by rw [List.length_replicate, ← rep_qrow]; exact h, by simp, fun k hk => ?_, fun i j hi hj _ => ?_⟩
  · rw [gi, gq]; exact World.ownsRow_nil _ _ _ _
  · rw [gi, gi]; intro b hb; cases hb

theorem new_ts {w W : World} {tb lv o m g gO gA gH : Nat} {vR : Value} {p q : Int}
    (hN : NT w W tb #[.int .i64 (lv : Int), vR, .int .i64 p, .int .i64 q, .slice (some ⟨gO, 0, none⟩) o o, .slice (some ⟨gA, 0, none⟩) m m, .slice (some ⟨gH, 0, none⟩) (2 * lv) (2 * lv), .slice none 0 0, .slice none 0 0, .slice (some ⟨g, 0, none⟩) o o] p q)
    (hO : W.ownsRow w.heap.size 68 2 (.slice (some ⟨gO, 0, none⟩) o o) o (rep o [.slice none 0 0, .pointer (some ⟨tb, 5, none⟩)]))
    (hH : W.ownsRow w.heap.size 68 2 (.slice (some ⟨gH, 0, none⟩) (2 * lv) (2 * lv)) (2 * lv) (rep (2 * lv) [.slice none 0 0, .pointer (some ⟨tb, 8, none⟩)]))
    (hA : W.ownsRow w.heap.size 3 1 (.slice (some ⟨gA, 0, none⟩) m m) m (rep m [.int .i64 (-1)]))
    (hSO : W.ownsRow w.heap.size 56 2 (.slice (some ⟨g, 0, none⟩) o o) o (rep o [.int .i64 (-1), .int .i64 (-1)])) (hne : gO ≠ gH) :
    ∃ l, TS W w.heap.size tb (newTree lv o m) l ∧ Below w.heap.size w W := by
  refine ⟨⟨.slice (some ⟨gO, 0, none⟩) o o, .slice (some ⟨gA, 0, none⟩) m m, .slice (some ⟨gH, 0, none⟩) (2 * lv) (2 * lv), nilS, nilS, .slice (some ⟨g, 0, none⟩) o o, List.replicate o nilS, List.replicate (2 * lv) nilS⟩, ?_, hN.old⟩
  refine ⟨⟨_, hN.blk⟩, hN.lo, hN.cell (j := 0) rfl, hN.cell (j := 4) rfl, hN.cell (j := 5) rfl, hN.cell (j := 6) rfl, hN.cell (j := 7) rfl, hN.cell (j := 8) rfl, hN.cell (j := 9) rfl, new_qr hO, new_qr hH, ?_, World.ownsRow_nil _ _ _ _, World.ownsRow_nil _ _ _ _, ?_, ?_, ?_, ?_⟩
  · simp only [newTree, List.length_replicate]; rw [← rep_ints]; exact hA
  · simp only [newTree, List.length_replicate]; rw [← rep_pairs]; exact hSO
  · intro b _ hb; cases hb
  · intro b hb1 hb2
    have e1 : gO = b := by simpa [Value.ownBlock] using hb1
    have e2 : gH = b := by simpa [Value.ownBlock] using hb2
    exact hne (e1.trans e2.symm)
  · intro i j _ _ b hb
    have : (List.replicate o nilS).getD i nilS = nilS := by simp [List.getD, List.getElem?_replicate]; split <;> rfl
    rw [this] at hb; cases hb

set_option maxHeartbeats 1000000 in
set_option maxRecDepth 100000 in
theorem new5 (L o m : Nat) (p q : Int) (w : World) (hL : L ≤ 16) (ho : 1 ≤ o) (ho4 : o ≤ 4) (hm : m ≤ 1000) :
    Calls Yba.prog 5 #[.int .i64 L, .int .i64 o, .int .i64 m, .agg #[.int .i64 p, .int .i64 q]] w fun e w' => ∃ tb ex, e = .returned (.pointer (some ⟨tb, 0, none⟩)) ∧ L ≤ 2 ^ ex ∧ ex ≤ 4 ∧ ∃ l, TS w' w.heap.size tb (newTree (2 ^ ex) o m) l ∧ Below w.heap.size w w' := by
  have hx0 : ∀ j u, [Value.int .i64 (-1), .int .i64 (-1)][j]? = some u → ((w.alloc (.cells #[.int .i64 p, .int .i64 q] 28)).alloc (.cells #[.int .i64 (-1), .int .i64 (-1)] 56)).drew.cell? ⟨w.heap.size + 1, j, none⟩ = some u := by
    refine rep_cells (cs := #[.int .i64 (-1), .int .i64 (-1)]) (t := 56) ?_
    have := World.alloc_heap_new (w.alloc (.cells #[.int .i64 p, .int .i64 q] 28)) (.cells #[.int .i64 (-1), .int .i64 (-1)] 56)
    rwa [World.size_alloc] at this
  have HX : Hid (∀ j u, [Value.int .i64 (-1), .int .i64 (-1)][j]? = some u → ((w.alloc (.cells #[.int .i64 p, .int .i64 q] 28)).alloc (.cells #[.int .i64 (-1), .int .i64 (-1)] 56)).drew.cell? ⟨w.heap.size + 1, j, none⟩ = some u) := hx0
  clear hx0
  go_enter Yba.func5, Yba.ntmps5
  go_wp2_with fail
  go_cut [9] from 9 to 16 (fun v wx => ∃ tb g, v = .pointer (some ⟨tb, 0, none⟩) ∧ NT w wx tb #[.int .i64 1, .slice none 0 0, .int .i64 p, .int .i64 q, .slice none 0 0, .slice none 0 0, .slice none 0 0, .slice none 0 0, .slice none 0 0, .slice (some ⟨g, 0, none⟩) o o] p q ∧
      wx.ownsRow w.heap.size 56 2 (.slice (some ⟨g, 0, none⟩) o o) o (rep o [.int .i64 (-1), .int .i64 (-1)]))
  case first =>
    go_region_with ((go_at_call 15; refine (rep15 (w.heap.size + 1) o [.int .i64 (-1), .int .i64 (-1)] _ rfl (by simp [Value.oneCell']) HX.out (by omega)).mono ?_; rintro e W1 ⟨g, rfl, hb1, hg1, hown1⟩; have f1 : W1.cell? ⟨w.heap.size, 0, none⟩ = some (.int .i64 p) := cell_below hb1 (by go_simp); have f2 : W1.cell? ⟨w.heap.size, 1, none⟩ = some (.int .i64 q) := cell_below hb1 (by go_simp)))
    all_goals
      have hbw : Below w.heap.size w W1 := ((((Below.refl _ w).alloc (Nat.le_refl _) _).alloc (by simp) _).drew).trans (hb1.mono (by simp; omega))
      go_wp2_with fail
      go_meet
      case rel =>
        refine ⟨W1.heap.size, g, rfl, ⟨World.alloc_heap_new _ _, hbw.alloc hbw.size _, hbw.size, cell_below ((Below.refl _ _).alloc (Nat.le_refl _) _) f1, cell_below ((Below.refl _ _).alloc (Nat.le_refl _) _) f2, by have := World.block_lt_of_cell? _ _ f1; simp at this; omega⟩, ?_⟩
        have := hown1.alloc (.cells #[.int .i64 1, .slice none 0 0, .int .i64 p, .int .i64 q, .slice none 0 0, .slice none 0 0, .slice none 0 0, .slice none 0 0, .slice none 0 0, .slice (some ⟨g, 0, none⟩) o o] 61)
        exact own_base this (by simp; omega)
  case rest =>
    clear HX
    obtain ⟨tb, g, rfl, hN, hSO⟩ := hcut
    go_wp2_with fail
    go_loopg [17] 6 (fun gh _ wr => ∃ e : Nat, NT w wr tb #[.int .i64 ((2 ^ e : Nat) : Int), .slice none 0 0, .int .i64 p, .int .i64 q, .slice none 0 0, .slice none 0 0, .slice none 0 0, .slice none 0 0, .slice none 0 0, .slice (some ⟨g, 0, none⟩) o o] p q ∧
      wr.ownsRow w.heap.size 56 2 (.slice (some ⟨g, 0, none⟩) o o) o (rep o [.int .i64 (-1), .int .i64 (-1)]) ∧ e ≤ 4 ∧ 6 - e ≤ gh)
    case atStart => exact ⟨0, hN, hSO, by omega, by omega⟩
    case round =>
      clear hN hSO
      obtain ⟨e, hN, hSO, he4, hgh⟩ := hrel
      have hpe : 2 ^ e ≤ 16 := Nat.le_trans (Nat.pow_le_pow_right (by omega) he4) (by decide)
      obtain ⟨lv, hlv⟩ : ∃ lv, 2 ^ e = lv := ⟨_, rfl⟩
      rw [hlv] at hN hpe
      have HV : Hid (2 ^ e = lv) := hlv
      clear hlv
      have c0 := hN.cell (j := 0) (u := .int .i64 (lv : Int)) rfl
      have f0 := hN.frz 0
      by_cases hlt : lv < L
      · have t1 : (lv : Int) < (L : Int) := by omega
        have t2 : (lv : Int) ≤ 16 := by omega
        have hNs := hN.set 0 (.int .i64 ((lv : Int) * 2))
        have hSOs := own_other (u := .int .i64 ((lv : Int) * 2)) hSO (own_ne hSO hN.blk (by decide)) 0
        have e2 : ((2 ^ (e + 1) : Nat) : Int) = (lv : Int) * 2 := by rw [Nat.pow_succ, HV.out]; omega
        have HE2 : Hid (((2 ^ (e + 1) : Nat) : Int) = (lv : Int) * 2) := e2
        have he5 : e + 1 ≤ 4 := by
          have h16 : 2 ^ e < 2 ^ 4 := by rw [HV.out]; omega
          have := (Nat.pow_lt_pow_iff_right (a := 2) (by omega)).1 h16
          omega
        clear e2
        go_wp2
        go_roundg (6 - (e + 1))
        case measure => omega
        case rel => exact ⟨e + 1, by rw [HE2.out]; exact hNs, hSOs, he5, Nat.le_refl _⟩
      · have t1 : ¬ (lv : Int) < (L : Int) := by omega
        have hL2 : L ≤ lv := by omega
        clear hlt hgh
        go_upto_region 4 with fail
        have h0 := hN.h0
        have h1 := hN.h1
        have ltb := World.block_lt_of_cell? _ _ c0
        have lw := World.block_lt_of_cell? _ _ h0
        have t2 : (lv : Int) ≤ 16 := by omega
        clear t1
        obtain ⟨n2, h2⟩ : ∃ n2 : Nat, 2 * (lv : Int) = (n2 : Int) := ⟨2 * lv, by omega⟩
        have hn2 : n2 ≤ 32 := by omega
        have hwr : IntKind.i64.wrap (n2 : Int) = (n2 : Int) := by rw [IntKind.wrap_i64]; omega
        have HN2 : Hid (n2 = 2 * lv) := (by omega : n2 = 2 * lv)
        go_cut [30] from 30 to 40 (fun _ wx => ∃ vR, NT w wx tb #[.int .i64 (lv : Int), vR, .int .i64 p, .int .i64 q, .slice none 0 0, .slice none 0 0, .slice none 0 0, .slice none 0 0, .slice none 0 0, .slice (some ⟨g, 0, none⟩) o o] p q ∧
          wx.ownsRow w.heap.size 56 2 (.slice (some ⟨g, 0, none⟩) o o) o (rep o [.int .i64 (-1), .int .i64 (-1)]))
        case first =>
          have HX : Hid (∀ j u, [Value.int .i64 p, .int .i64 q][j]? = some u → (wr.alloc (.cells #[.int .i64 p, .int .i64 q] 28)).drew.cell? ⟨wr.heap.size, j, none⟩ = some u) :=
            rep_cells (cs := #[.int .i64 p, .int .i64 q]) (t := 28) (World.alloc_heap_new wr _)
          go_region_held3 (fun W => W.cell? ⟨w.heap.size, 0, none⟩ = some (.int .i64 p) ∧ W.cell? ⟨w.heap.size, 1, none⟩ = some (.int .i64 q) ∧ W.cell? ⟨tb, 0, none⟩ = some (.int .i64 (lv : Int))) (first | go_keep | exact ⟨(hN1.set 1 _).h0, (hN1.set 1 _).h1, (hN1.set 1 _).cell (j := 0) rfl⟩) ((go_at_call 16; refine (rep16 wr.heap.size n2 [.int .i64 p, .int .i64 q] _ rfl (by simp [Value.oneCell']) HX.out (by omega)).mono ?_; rintro e' W1 ⟨gR, rfl, hb1, hg1, hown1⟩; have hbw : Below wr.heap.size wr W1 := (((Below.refl _ wr).alloc (Nat.le_refl _) _).drew).trans (hb1.mono (by simp)); have hN1 := hN.below hbw; have f1 := hN1.cell (j := 1) (u := .slice none 0 0) rfl; have f2 := hN1.frz 1; have f3 := hN1.h0; have f4 := hN1.h1; have f5 := hN1.cell (j := 0) (u := .int .i64 (lv : Int)) rfl))
          all_goals
            have hNs := hN1.set 1 (.slice (some ⟨gR, 0, none⟩) n2 n2)
            have hSO1 := own_keep (S := fun _ => False) hSO (Touch.below hbw) (fun _ _ x => x)
            have hSOs := own_other (u := .slice (some ⟨gR, 0, none⟩) n2 n2) hSO1 (own_ne hSO1 hN1.blk (by decide)) 1
            go_wp2_with fail
            go_meet
            case rel => exact ⟨_, hNs, hSOs⟩
        case rest =>
          clear hN hSO h0 h1 ltb lw c0 f0 hwr
          obtain ⟨vR, hN, hSO⟩ := hcut
          have ltb := (Array.getElem?_eq_some_iff.1 hN.blk).1
          have g5 := hN.cell (j := 5) (u := .slice none 0 0) rfl
          have gf := hN.frz 5
          have tpos : (0 : Int) < (o : Int) := by omega
          have HX : Hid (∀ j u, [Value.int .i64 (-1)][j]? = some u → (wc.alloc (.cells #[.int .i64 (-1)] 3)).cell? ⟨wc.heap.size, j, none⟩ = some u) :=
            rep_cells (cs := #[.int .i64 (-1)]) (t := 3) (World.alloc_heap_new wc _)
          go_upto_region 7 with (go_at_call 17; refine (rep17 wc.heap.size m [.int .i64 (-1)] _ rfl (by simp [Value.oneCell']) HX.out (by omega)).mono ?_; rintro e' W1 ⟨gA, rfl, hb1, hg1, hA1⟩; have hbw : Below wc.heap.size wc W1 := ((Below.refl _ wc).alloc (Nat.le_refl _) _).trans (hb1.mono (by simp)); have hN1 := hN.below hbw; have k5 := hN1.cell (j := 5) (u := .slice none 0 0) rfl; have kf := hN1.frz 5)
          have hSO1 := own_keep (S := fun _ => False) hSO (Touch.below hbw) (fun _ _ x => x)
          have hN2 := hN1.set 5 (.slice (some ⟨gA, 0, none⟩) m m)
          have hSO2 := own_other (u := .slice (some ⟨gA, 0, none⟩) m m) hSO1 (own_ne hSO1 hN1.blk (by decide)) 5
          have hA0 := own_base hA1 (show w.heap.size ≤ (wc.alloc (.cells #[.int .i64 (-1)] 3)).heap.size by have := hN.old.size; simp; omega)
          have hA2 := own_other (u := .slice (some ⟨gA, 0, none⟩) m m) hA0 (own_ne hA0 hN1.blk (by decide)) 5
          generalize W1.setCell ⟨tb, 5, none⟩ (.slice (some ⟨gA, 0, none⟩) m m) = W2 at hN2 hSO2 hA2 ⊢
          clear hN1 hSO1 hA1 hA0 hSO hN k5 kf g5 gf HX hbw hb1 hg1 ltb
          have ltb := (Array.getElem?_eq_some_iff.1 hN2.blk).1
          have HX : Hid (∀ j u, [Value.slice none 0 0, .pointer (some ⟨tb, 5, none⟩)][j]? = some u → (W2.alloc (.cells #[.slice none 0 0, .pointer (some ⟨tb, 5, none⟩)] 68)).cell? ⟨W2.heap.size, j, none⟩ = some u) :=
            rep_cells (cs := #[.slice none 0 0, .pointer (some ⟨tb, 5, none⟩)]) (t := 68) (World.alloc_heap_new W2 _)
          go_upto_region 8 with (go_at_call 18; refine (rep18 W2.heap.size o [.slice none 0 0, .pointer (some ⟨tb, 5, none⟩)] _ rfl (by simp [Value.oneCell']) HX.out (by omega)).mono ?_; rintro e' W3 ⟨gO, rfl, hb3, hg3, hO3⟩; have hbw3 : Below W2.heap.size W2 W3 := ((Below.refl _ W2).alloc (Nat.le_refl _) _).trans (hb3.mono (by simp)); have hN3 := hN2.below hbw3; have k4 := hN3.cell (j := 4) (u := .slice none 0 0) rfl; have kf := hN3.frz 4)
          have hSO3 := own_keep (S := fun _ => False) hSO2 (Touch.below hbw3) (fun _ _ x => x)
          have hA3 := own_keep (S := fun _ => False) hA2 (Touch.below hbw3) (fun _ _ x => x)
          have hN4 := hN3.set 4 (.slice (some ⟨gO, 0, none⟩) o o)
          have hSO4 := own_other (u := .slice (some ⟨gO, 0, none⟩) o o) hSO3 (own_ne hSO3 hN3.blk (by decide)) 4
          have hA4 := own_other (u := .slice (some ⟨gO, 0, none⟩) o o) hA3 (own_ne hA3 hN3.blk (by decide)) 4
          have hO0 := own_base hO3 (show w.heap.size ≤ (W2.alloc (.cells #[.slice none 0 0, .pointer (some ⟨tb, 5, none⟩)] 68)).heap.size by have := hN2.old.size; simp; omega)
          have hO4 := own_other (u := .slice (some ⟨gO, 0, none⟩) o o) hO0 (own_ne hO0 hN3.blk (by decide)) 4
          generalize W3.setCell ⟨tb, 4, none⟩ (.slice (some ⟨gO, 0, none⟩) o o) = W4 at hN4 hSO4 hA4 hO4 ⊢
          clear hN2 hN3 hSO2 hSO3 hA2 hA3 hO3 hO0 k4 kf HX hbw3 hb3 hg3 ltb
          have ltb := (Array.getElem?_eq_some_iff.1 hN4.blk).1
          have c0 := hN4.cell (j := 0) (u := .int .i64 (lv : Int)) rfl
          have hwr : IntKind.i64.wrap (n2 : Int) = (n2 : Int) := by rw [IntKind.wrap_i64]; omega
          have HX : Hid (∀ j u, [Value.slice none 0 0, .pointer (some ⟨tb, 8, none⟩)][j]? = some u → (W4.alloc (.cells #[.slice none 0 0, .pointer (some ⟨tb, 8, none⟩)] 68)).drew.cell? ⟨W4.heap.size, j, none⟩ = some u) :=
            rep_cells (cs := #[.slice none 0 0, .pointer (some ⟨tb, 8, none⟩)]) (t := 68) (World.alloc_heap_new W4 _)
          go_region_held3 (fun W => W.cell? ⟨tb, 0, none⟩ = some (.int .i64 (lv : Int))) (first | go_keep | exact (hN5.set 6 _).cell (j := 0) rfl) ((go_at_call 18; refine (rep18 W4.heap.size n2 [.slice none 0 0, .pointer (some ⟨tb, 8, none⟩)] _ rfl (by simp [Value.oneCell']) HX.out (by omega)).mono ?_; rintro e' W5 ⟨gH, rfl, hb5, hg5, hH5⟩; have hbw5 : Below W4.heap.size W4 W5 := (((Below.refl _ W4).alloc (Nat.le_refl _) _).drew).trans (hb5.mono (by simp)); have hN5 := hN4.below hbw5; have k6 := hN5.cell (j := 6) (u := .slice none 0 0) rfl; have kf := hN5.frz 6; have k0 := hN5.cell (j := 0) (u := .int .i64 (lv : Int)) rfl))
          have hSO5 := own_keep (S := fun _ => False) hSO4 (Touch.below hbw5) (fun _ _ x => x)
          have hA5 := own_keep (S := fun _ => False) hA4 (Touch.below hbw5) (fun _ _ x => x)
          have hO5 := own_keep (S := fun _ => False) hO4 (Touch.below hbw5) (fun _ _ x => x)
          have hN6 := hN5.set 6 (.slice (some ⟨gH, 0, none⟩) n2 n2)
          have hSO6 := own_other (u := .slice (some ⟨gH, 0, none⟩) n2 n2) hSO5 (own_ne hSO5 hN5.blk (by decide)) 6
          have hA6 := own_other (u := .slice (some ⟨gH, 0, none⟩) n2 n2) hA5 (own_ne hA5 hN5.blk (by decide)) 6
          have hO6 := own_other (u := .slice (some ⟨gH, 0, none⟩) n2 n2) hO5 (own_ne hO5 hN5.blk (by decide)) 6
          have hH0 := own_base hH5 (show w.heap.size ≤ (W4.alloc (.cells #[.slice none 0 0, .pointer (some ⟨tb, 8, none⟩)] 68)).drew.heap.size by have := hN4.old.size; simp; omega)
          have hH6 := own_other (u := .slice (some ⟨gH, 0, none⟩) n2 n2) hH0 (own_ne hH0 hN5.blk (by decide)) 6
          have hOl : gO < W4.heap.size := (hO4.lt gO rfl).2
          have hgH : gO ≠ gH := by simp at hg5; omega
          generalize W5.setCell ⟨tb, 6, none⟩ (.slice (some ⟨gH, 0, none⟩) n2 n2) = W6 at hN6 hSO6 hA6 hO6 hH6 ⊢
          clear hN4 hN5 hSO4 hSO5 hA4 hA5 hO4 hO5 hH5 hH0 k6 kf k0 HX hbw5 hb5 hg5 hwr c0 h2 t2
          go_wp2
          go_ret
          refine ⟨tb, e, rfl, by rw [HV.out]; exact hL2, he4, ?_⟩
          rw [HV.out]
          have e2 := HN2.out
          subst e2
          exact new_ts hN6 hO6 hH6 hA6 hSO6 hgH
end Go.Proofs.Ybulkcmtm
