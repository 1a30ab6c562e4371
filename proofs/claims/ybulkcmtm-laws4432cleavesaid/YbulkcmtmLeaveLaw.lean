/- THE WALK OF LawS4432CLeave (function 4), itself. -/
import Derived.Test.YbulkcmtmLaw4
import Derived.Shelf.Abstract
namespace Go.Proofs.Ybulkcmtm
open Go.RowKit Go.Shelf

set_option maxRecDepth 100000 in
theorem law4_big (sa : Option Addr) (n cap : Nat) (w : World) (hn : ¬ n ≤ 1024) :
    Calls Yba.prog 4 #[.slice sa n cap] w fun e w' => e = .returned (.bool true) ∧ Below w.heap.size w w' := by
  have hbig : (1024 : Int) < (n : Int) := by omega
  go_enter Yba.func4, Yba.ntmps4
  go_wp2
  go_ret
  exact ⟨rfl, Below.refl _ _⟩

theorem new_lt {w W : World} {tb ex : Nat} {l : Lay} (h : TS W w.heap.size tb (newTree (2 ^ ex) 3 8) l) (hb : Below w.heap.size w W) (he : ex ≤ 4) :
    LT w tb W.heap.size (W.heap.size + 1) ex 0 (newTree (2 ^ ex) 3 8) l (fun _ => false) (fun _ => (0, 0)) W := by
  have g0 : ∀ k, (newTree (2 ^ ex) 3 8).off.getD k [] = [] := fun k => by
    simp only [newTree, List.getD, List.getElem?_replicate]; split <;> rfl
  have g1 : ∀ k, (newTree (2 ^ ex) 3 8).hd.getD k [] = [] := fun k => by
    simp only [newTree, List.getD, List.getElem?_replicate]; split <;> rfl
  refine ⟨h, hb, ⟨by simp [newTree], by simp [newTree], ?_, ?_, ?_, ?_, ?_⟩, ⟨rfl, ?_, ?_, ?_, ?_⟩, rfl, he, by simp [newTree], by simp [newTree], ?_, by simp [newTree], ?_, ?_, ⟨hb.size, Nat.le_succ_of_le hb.size⟩⟩
  · intro k _ i hi
    have : i < ((newTree (2 ^ ex) 3 8).off.getD k []).length := hi
    rw [g0] at this; simp at this
  · intro k _ i h1 h2
    rw [g0] at h2; simp at h2
  · intro k _ y hy
    rw [g0] at hy; cases hy
  · intro n _ hi
    cases hi
  · intro n hn _
    simp only [newTree]
    rw [List.getElem?_replicate, if_pos hn]
  · intro k _ i hi
    have : i < ((newTree (2 ^ ex) 3 8).hd.getD k []).length := hi
    rw [g1] at this; simp at this
  · intro s p hp
    simp [newTree] at hp
  · intro k _ y hy
    rw [g1] at hy; cases hy
  · intro s hs
    simp [newTree] at hs
  · intro k hk
    simp only [newTree, List.length_replicate] at hk
    left
    simp only [newTree]
    rw [List.getElem?_replicate, if_pos hk]
  · intro b hb
    have := h.owned_lt hb
    exact ⟨by omega, by omega⟩
  · have := h.tb_lt
    exact ⟨by omega, by omega⟩

set_option maxHeartbeats 4000000 in
set_option maxRecDepth 100000 in
theorem law4_some (sa : Option Addr) (n cap : Nat) (fo fn fp fq : Nat → Int) (w : World) (hn : n ≤ 1024)
    (hc : ∀ j, j < n → ∃ b off, sa = some ⟨b, off, none⟩ ∧ b < w.heap.size ∧ w.cell? ⟨b, off + j * 4, none⟩ = some (.int .u8 (fo j)) ∧ w.cell? ⟨b, off + j * 4 + 1, none⟩ = some (.int .u8 (fn j)) ∧ w.cell? ⟨b, off + j * 4 + 2, none⟩ = some (.int .i8 (fp j)) ∧ w.cell? ⟨b, off + j * 4 + 3, none⟩ = some (.int .i8 (fq j)) ∧
      0 ≤ fo j ∧ fo j ≤ 255 ∧ 0 ≤ fn j ∧ fn j ≤ 255 ∧ -128 ≤ fp j ∧ fp j ≤ 127 ∧ -128 ≤ fq j ∧ fq j ≤ 127) :
    Calls Yba.prog 4 #[.slice sa n cap] w fun e w' => e = .returned (.bool true) ∧ Below w.heap.size w w' := by
  have hnot : ∀ (x : Bool) (w : World), (Op.unary .not (.bool x)).run Yba.prog w = .ok (.bool (!x)) w := fun _ _ => rfl
  have hbig : ¬ ((1024 : Int) < (n : Int)) := by omega
  have HN : Hid (n ≤ 1024) := hn
  have HC : Hid (∀ j, j < n → ∃ b off, sa = some ⟨b, off, none⟩ ∧ b < w.heap.size ∧ w.cell? ⟨b, off + j * 4, none⟩ = some (.int .u8 (fo j)) ∧ w.cell? ⟨b, off + j * 4 + 1, none⟩ = some (.int .u8 (fn j)) ∧ w.cell? ⟨b, off + j * 4 + 2, none⟩ = some (.int .i8 (fp j)) ∧ w.cell? ⟨b, off + j * 4 + 3, none⟩ = some (.int .i8 (fq j)) ∧
      0 ≤ fo j ∧ fo j ≤ 255 ∧ 0 ≤ fn j ∧ fn j ≤ 255 ∧ -128 ≤ fp j ∧ fp j ≤ 127 ∧ -128 ≤ fq j ∧ fq j ≤ 127) := hc
  clear hc hn
  go_enter Yba.func4, Yba.ntmps4
  go_wp2_with fail
  refine (new5 4 3 8 0 0 w (by omega) (by omega) (by omega) (by omega)).mono ?_
  rintro e W1 ⟨tb, ex, rfl, _, he4, l1, hT1, hb1⟩
  have hLT := new_lt hT1 hb1 he4
  clear hbig
  go_wp2_with fail
  obtain ⟨W2, hW2⟩ : ∃ W2, ((W1.alloc (.cells #[.bool false, .bool false, .bool false, .bool false, .bool false, .bool false, .bool false, .bool false] 44)).alloc (.cells #[.int .i64 0, .int .i64 0, .int .i64 0, .int .i64 0, .int .i64 0, .int .i64 0, .int .i64 0, .int .i64 0, .int .i64 0, .int .i64 0, .int .i64 0, .int .i64 0, .int .i64 0, .int .i64 0, .int .i64 0, .int .i64 0] 45)) = W2 := ⟨_, rfl⟩
  have hb2 : Below W1.heap.size W1 W2 := by rw [← hW2]; exact ((Below.refl _ _).alloc (Nat.le_refl _) _).alloc (by simp) _
  have hLT2 := hLT.below hb2
  have hLA2 : LA W1.heap.size (W1.heap.size + 1) (fun _ => false) (fun _ => (0, 0)) W2 := by
    refine ⟨⟨_, by rw [← hW2, Below.heap_alloc _ _ _ (by simp)]; exact World.alloc_heap_new _ _, ?_⟩, ⟨_, by rw [← hW2]; have := World.alloc_heap_new (W1.alloc (.cells #[.bool false, .bool false, .bool false, .bool false, .bool false, .bool false, .bool false, .bool false] 44)) (.cells #[.int .i64 0, .int .i64 0, .int .i64 0, .int .i64 0, .int .i64 0, .int .i64 0, .int .i64 0, .int .i64 0, .int .i64 0, .int .i64 0, .int .i64 0, .int .i64 0, .int .i64 0, .int .i64 0, .int .i64 0, .int .i64 0] 45); rwa [World.size_alloc] at this, ?_⟩⟩
    · intro n hn
      rcases (show n = 0 ∨ n = 1 ∨ n = 2 ∨ n = 3 ∨ n = 4 ∨ n = 5 ∨ n = 6 ∨ n = 7 by omega) with rfl | rfl | rfl | rfl | rfl | rfl | rfl | rfl <;> rfl
    · intro n hn
      rcases (show n = 0 ∨ n = 1 ∨ n = 2 ∨ n = 3 ∨ n = 4 ∨ n = 5 ∨ n = 6 ∨ n = 7 by omega) with rfl | rfl | rfl | rfl | rfl | rfl | rfl | rfl <;> exact ⟨rfl, rfl⟩
  rw [hW2]
  generalize W1.heap.size = ib at *
  clear hW2 hb2 hLT hT1 hb1
  go_loopg [19] (n + 1) (fun gh v wr => ∃ (j : Nat) (T : Tree) (l : Lay) (inn : Nat → Bool) (rk : Nat → Int × Int), v = .int .i64 j ∧ j ≤ n ∧ LT w tb ib (ib + 1) ex j T l inn rk wr ∧ LA ib (ib + 1) inn rk wr ∧ n + 1 - j ≤ gh)
  case atStart => exact ⟨0, _, _, _, _, rfl, Nat.zero_le _, hLT2, hLA2, Nat.le_refl _⟩
  case round =>
    clear hLT2 hLA2
    obtain ⟨j, T, l, inn, rk, rfl, hj, hLT, hLA, hgh⟩ := hrel
    by_cases hjn : j < n
    · have t1 : (j : Int) < (n : Int) := by omega
      have t0 : (0 : Int) ≤ (j : Int) := by omega
      obtain ⟨b, off, hsa, hbw, x0, x1, x2, x3, o0, o1, n0, n1, p0, p1, q0, q1⟩ := HC.out j hjn
      have hn1024 := HN.out
      obtain ⟨vo, hvo⟩ : ∃ vo, fo j = vo := ⟨_, rfl⟩
      obtain ⟨vn, hvn⟩ : ∃ vn : Nat, fn j = (vn : Int) := ⟨(fn j).toNat, by omega⟩
      obtain ⟨vp, hvp⟩ : ∃ vp, fp j = vp := ⟨_, rfl⟩
      obtain ⟨vq, hvq⟩ : ∃ vq, fq j = vq := ⟨_, rfl⟩
      rw [hvo] at x0 o0 o1
      rw [hvn] at x1 n0 n1
      rw [hvp] at x2 p0 p1
      rw [hvq] at x3 q0 q1
      have y0 := (hLT.old.cell (p := ⟨b, off + j * 4, none⟩) hbw).trans x0
      have y1 := (hLT.old.cell (p := ⟨b, off + j * 4 + 1, none⟩) hbw).trans x1
      have y2 := (hLT.old.cell (p := ⟨b, off + j * 4 + 2, none⟩) hbw).trans x2
      have y3 := (hLT.old.cell (p := ⟨b, off + j * 4 + 3, none⟩) hbw).trans x3
      obtain ⟨m, hm⟩ : ∃ m, vn % 8 = m := ⟨_, rfl⟩
      have hm8 : m < 8 := by omega
      have e1 : (vn : Int).tmod 8 = (m : Int) := by rw [Int.tmod_eq_emod_of_nonneg (by omega)]; omega
      obtain ⟨k, hk⟩ : ∃ k, m % 3 = k := ⟨_, rfl⟩
      have e2 : (m : Int).tmod 3 = (k : Int) := by rw [Int.tmod_eq_emod_of_nonneg (by omega)]; omega
      have wr1 : IntKind.i64.wrap (vn : Int) = (vn : Int) := by rw [IntKind.wrap_i64]; omega
      have wr2 : IntKind.i64.wrap vp = vp := by rw [IntKind.wrap_i64]; omega
      have wr3 : IntKind.i64.wrap vq = vq := by rw [IntKind.wrap_i64]; omega
      have wr4 : IntKind.i64.wrap (m : Int) = (m : Int) := by rw [IntKind.wrap_i64]; omega
      have wr5 : IntKind.i64.wrap (k : Int) = (k : Int) := by rw [IntKind.wrap_i64]; omega
      have wr6 : IntKind.i64.wrap ((j : Int) + 1) = (j : Int) + 1 := by rw [IntKind.wrap_i64]; omega
      have Hm : Hid (m < 8 ∧ m % 3 = k ∧ 0 ≤ vo ∧ vo ≤ 255) := ⟨hm8, hk, o0, o1⟩
      have Hg : Hid (n + 1 - (j + 1) < _) := Nat.lt_of_lt_of_le (show n + 1 - (j + 1) < n + 1 - j by omega) hgh
      subst hsa
      clear x0 x1 x2 x3 o0 o1 n0 n1 p0 p1 q0 q1 hvo hvn hvp hvq hbw hn1024 hm hk hgh hm8
      go_upto_region 12 with fail
      obtain ⟨We, hWe⟩ : ∃ We, wr.alloc (.cells #[.int .u8 vo, .int .u8 (vn : Int), .int .i8 vp, .int .i8 vq] 48) = We := ⟨_, rfl⟩
      have hbe : Below wr.heap.size wr We := by rw [← hWe]; exact (Below.refl _ _).alloc (Nat.le_refl _) _
      have z0 : We.cell? ⟨wr.heap.size, 0, none⟩ = some (.int .u8 vo) := by rw [← hWe]; simp
      have z2 : We.cell? ⟨wr.heap.size, 2, none⟩ = some (.int .i8 vp) := by rw [← hWe]; simp
      have z3 : We.cell? ⟨wr.heap.size, 3, none⟩ = some (.int .i8 vq) := by rw [← hWe]; simp
      have hLTe := hLT.below hbe
      have hLAe := hLA.below hbe
      rw [hWe]
      clear hWe hbe y0 y1 y2 y3 hLT hLA e1 e2 t1 t0
      have m0 : (0 : Int) ≤ (m : Int) := by omega
      have m1 : (m : Int) < 8 := by have := Hm.out.1; omega
      have HLT : Hid (LT w tb ib (ib + 1) ex j T l inn rk We) := hLTe
      have HLA : Hid (LA ib (ib + 1) inn rk We) := hLAe
      have ci := hLAe.arr.i m Hm.out.1
      obtain ⟨r, hr⟩ : ∃ r, vo.tmod 2 = r := ⟨_, rfl⟩
      have wr7 : IntKind.u8.wrap r = r := by
        have := Hm.out.2.2
        rw [Int.tmod_eq_emod_of_nonneg (by omega)] at hr
        simp [IntKind.wrap, IntKind.signed, IntKind.bits]
        omega
      clear hLTe hLAe
      by_cases hev : r = 0
      · subst hev
        cases hin : inn m with
        | true =>
          rw [hin] at ci
          go_wp2
          go_roundg (n + 1 - (j + 1))
          case measure => exact Hg.out
          case rel => exact ⟨j + 1, T, l, inn, rk, rfl, by omega, HLT.out.next, HLA.out, Nat.le_refl _⟩
        | false =>
          rw [hin] at ci
          go_upto_region 15 with fail
          obtain ⟨Wf, hWf⟩ : ∃ Wf, We.alloc (.cells #[.int .i64 vp, .int .i64 vq] 28) = Wf := ⟨_, rfl⟩
          have hbf : Below We.heap.size We Wf := by rw [← hWf]; exact (Below.refl _ _).alloc (Nat.le_refl _) _
          have s0 : Wf.cell? ⟨We.heap.size, 0, none⟩ = some (.int .i64 vp) := by rw [← hWf]; simp
          have s1 : Wf.cell? ⟨We.heap.size, 1, none⟩ = some (.int .i64 vq) := by rw [← hWf]; simp
          have hLTf := HLT.out.below hbf
          have hLAf := HLA.out.below hbf
          have hszf : We.heap.size < Wf.heap.size := by rw [← hWf]; simp
          rw [hWf]
          clear hWf ci z0 z2 z3
          go_wp2_with fail
          obtain ⟨hm8, hmk, -, -⟩ := Hm.out
          have hj1 := HN.out
          have hst1 := hLTf.st
          subst hmk
          refine ((callsIn_wide (n := 3)).1 (join6 Wf hLTf.ts hLTf.hw (m % 3) m ex vp vq 12 #[] [(0, 4)] 1 hLTf.lv hLTf.ex4 hLTf.hd (by rw [hLTf.ci.ol]; omega) (by rw [hLTf.sl]; omega) (by rw [hLTf.ci.ol]; omega) (by rw [hLTf.ci.al]; exact hm8) (hLTf.ci.absent hin) (hLTf.ci.wf _ (Nat.mod_lt _ (by omega))) (by rw [hLTf.ci.al]; omega)
            (by omega) (by simp) (hLTf.so _ (by rw [hLTf.sl]; omega)) (fun w0 _ => seq12 _ w0) (enters_of Yba.func12 (by kernel_rfl) rfl))).mono ?_
          rintro e Wg ⟨⟨u, rfl⟩, T', l', hTg, hMg, hJ⟩
          obtain ⟨hold, hno⟩ := hLTf.moved hLAf hMg
          obtain ⟨hso', hstl⟩ := hJ.so_inv (by rw [hLTf.sl]; omega) hLTf.so
          have hcl := covs_len hLTf.ex4 [((0 : Int), (4 : Int))]
          have hLTg : LT w tb ib (ib + 1) ex (j + 1) T' l' (upd inn m true) (upd rk m (vp, vq)) Wg :=
            ⟨hTg, hold, hLTf.ci.join hm8 hin vp vq hJ.off hJ.oAt, hJ.hw, hJ.lv.trans hLTf.lv, hLTf.ex4, hJ.hl.trans hLTf.hd, hJ.sol.trans hLTf.sl, hso', by simp only [List.length_cons, List.length_nil] at hcl; omega, hno, hLTf.nt, hLTf.lt⟩
          have hLAg := hLAf.moves hLTf.no hLTf.nt hMg
          have hnb : ¬ l.owns We.heap.size := fun e => Nat.lt_irrefl _ (HLT.out.ts.owned_lt e)
          have hnt : We.heap.size ≠ tb := fun e => Nat.lt_irrefl _ (e ▸ HLT.out.ts.tb_lt)
          have s2 := ((hMg.cell (o := 0) hszf hnb hnt).2.1).trans s0
          have s3 := ((hMg.cell (o := 1) hszf hnb hnt).2.1).trans s1
          have r0 := hLAg.arr.i m hm8
          have r1 := hLAg.arr.p m hm8
          have r2 := hLAg.arr.q m hm8
          have f0 := hLAg.fi m
          have f1 := hLAg.fr (m * 2)
          have f2 := hLAg.fr (m * 2 + 1)
          have hneq : ib ≠ We.heap.size := fun e => Nat.lt_irrefl _ (e ▸ HLA.out.lt.1)
          have hLTh := (hLTg.setArr (b := ib) (o := m) (.inl rfl) (.bool true))
          have hLAh := hLAg.setIn hm8 true
          have hLTi := (hLTh.setArr (b := ib + 1) (o := m * 2) (.inr rfl) (.int .i64 vp)).setArr (b := ib + 1) (o := m * 2 + 1) (.inr rfl) (.int .i64 vq)
          have hLAi := hLAh.setRk hm8 vp vq
          have HT : Hid (LT w tb ib (ib + 1) ex (j + 1) T' l' (upd inn m true) (upd rk m (vp, vq)) (((Wg.setCell ⟨ib, m, none⟩ (.bool true)).setCell ⟨ib + 1, m * 2, none⟩ (.int .i64 vp)).setCell ⟨ib + 1, m * 2 + 1, none⟩ (.int .i64 vq))) := hLTi
          have HA : Hid (LA ib (ib + 1) (upd inn m true) (upd rk m (vp, vq)) (((Wg.setCell ⟨ib, m, none⟩ (.bool true)).setCell ⟨ib + 1, m * 2, none⟩ (.int .i64 vp)).setCell ⟨ib + 1, m * 2 + 1, none⟩ (.int .i64 vq))) := hLAi
          clear hLTi hLAi hLTh hLAh hLTg hLAg hcl hstl hso' hold hno hJ hMg hTg hLTf hLAf hst1 hj1 hbf s0 s1 hnb hnt
          go_upto_region 20 with fail
          obtain ⟨Wi, hWi⟩ : ∃ Wi, ((Wg.setCell ⟨ib, m, none⟩ (.bool true)).setCell ⟨ib + 1, m * 2, none⟩ (.int .i64 vp)).setCell ⟨ib + 1, m * 2 + 1, none⟩ (.int .i64 vq) = Wi := ⟨_, rfl⟩
          rw [hWi] at HT HA ⊢
          clear hWi r0 r1 r2 f0 f1 f2 s2 s3
          go_wp2_with fail
          refine (check14 Wi HT.out.ts ib (ib + 1) _ _ HA.out.arr HT.out.ci).mono ?_
          rintro e Wj ⟨rfl, hbj⟩
          have hLTj := HT.out.below hbj
          have hLAj := HA.out.below hbj
          go_wp2
          go_roundg (n + 1 - (j + 1))
          case measure => exact Hg.out
          case rel => exact ⟨j + 1, _, _, _, _, rfl, by omega, hLTj, hLAj, Nat.le_refl _⟩
      · have hev2 : ¬ (r = 0) := hev
        go_upto_region 18 with fail
        go_wp2_with fail
        obtain ⟨hm8, hmk, -, -⟩ := Hm.out
        subst hmk
        have hlt3 : m % 3 < 3 := Nat.mod_lt _ (by omega)
        have hLT := HLT.out
        have hLA := HLA.out
        cases hin : inn m with
        | true =>
          obtain ⟨i, hoi, hil, hgi⟩ := hLT.ci.place hm8 hin
          have hl8 := Qu.WF.len (hLT.ci.wf _ hlt3)
          refine (leave_in We hLT.ts (m % 3) m i (by rw [hLT.ci.ol]; exact hlt3) hoi hil (hLT.ci.wf _ hlt3) (by simp only [oq] at hl8; rw [hLT.ci.al] at hl8; omega) (by rw [hLT.ci.ol]; omega) (by rw [hLT.ci.al]; omega)).mono ?_
          rintro e Wg ⟨⟨u, rfl⟩, l', hTg, hMg⟩
          obtain ⟨hold, hno⟩ := hLT.moved hLA hMg
          have hLTg : LT w tb ib (ib + 1) ex j _ l' (upd inn m false) rk Wg :=
            ⟨hTg, hold, hLT.ci.leave hm8 hil hgi, ⟨hLT.hw.len, hLT.hw.wf, fun s p hp => by simpa using hLT.hw.nodes s p hp, hLT.hw.mem, hLT.hw.place⟩, hLT.lv, hLT.ex4, hLT.hd, hLT.sl, hLT.so, hLT.st, hno, hLT.nt, hLT.lt⟩
          have hLAg := hLA.moves hLT.no hLT.nt hMg
          have r0 := hLAg.arr.i m hm8
          have f0 := hLAg.fi m
          have HT := (hLTg.setArr (b := ib) (o := m) (.inl rfl) (.bool false)).next
          have HA := hLAg.setIn hm8 false
          clear hLTg hLAg hold hno hMg hTg hLT hLA hoi hil hgi hl8 hlt3 hin ci z0 z2 z3 HLT HLA
          go_upto_region 20 with fail
          obtain ⟨Wi, hWi⟩ : ∃ Wi, Wg.setCell ⟨ib, m, none⟩ (.bool false) = Wi := ⟨_, rfl⟩
          rw [hWi] at HT HA ⊢
          clear hWi r0 f0
          go_wp2_with fail
          refine (check14 Wi HT.ts ib (ib + 1) _ _ HA.arr HT.ci).mono ?_
          rintro e Wj ⟨rfl, hbj⟩
          have hLTj := HT.below hbj
          have hLAj := HA.below hbj
          clear HT HA
          go_wp2
          go_roundg (n + 1 - (j + 1))
          case measure => exact Hg.out
          case rel => exact ⟨j + 1, _, _, _, _, rfl, by omega, hLTj, hLAj, Nat.le_refl _⟩
        | false =>
          refine (leave_out We hLT.ts (m % 3) m (hLT.ci.out m hm8 hin)).mono ?_
          rintro e Wg ⟨⟨u, rfl⟩, rfl⟩
          have eu : upd inn m false = inn := by
            funext x
            simp only [upd]
            split
            · rename_i e; rw [e, hin]
            · rfl
          have r0 := hLA.arr.i m hm8
          have f0 := hLA.fi m
          have HT := (hLT.setArr (b := ib) (o := m) (.inl rfl) (.bool false)).next
          have HA := hLA.setIn hm8 false
          rw [eu] at HA
          clear hLT hLA hlt3 hin ci z0 z2 z3 HLT HLA eu
          go_upto_region 20 with fail
          obtain ⟨Wi, hWi⟩ : ∃ Wi, Wg.setCell ⟨ib, m, none⟩ (.bool false) = Wi := ⟨_, rfl⟩
          rw [hWi] at HT HA ⊢
          clear hWi r0 f0
          go_wp2_with fail
          refine (check14 Wi HT.ts ib (ib + 1) _ _ HA.arr HT.ci).mono ?_
          rintro e Wj ⟨rfl, hbj⟩
          have hLTj := HT.below hbj
          have hLAj := HA.below hbj
          clear HT HA
          go_wp2
          go_roundg (n + 1 - (j + 1))
          case measure => exact Hg.out
          case rel => exact ⟨j + 1, _, _, _, _, rfl, by omega, hLTj, hLAj, Nat.le_refl _⟩
    · have t1 : ¬ ((j : Int) < (n : Int)) := by omega
      go_wp2
      go_ret
      exact ⟨rfl, hLT.old⟩
end Go.Proofs.Ybulkcmtm
