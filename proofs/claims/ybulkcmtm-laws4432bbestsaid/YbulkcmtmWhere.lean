/- (*offerTree).bestWhere. -/
import Derived.Test.YbulkcmtmBest
namespace Go.Proofs.Ybulkcmtm
open Go.RowKit

def itv (s : Bw) : Int := match s.it with | none => -1 | some x => (x.n : Int)

/-- What lies in memory as bestWhere goes. -/
structure FS (w : World) (B lb fb : Nat) (wr : World) (s : Bw) (v : Value) (p q : Int) : Prop where
  old : Below B w wr
  log : LogAt wr B lb v s.log
  fnd : wr.heap[fb]? = some (.cells #[.int .i64 p, .int .i64 q] 28 (0, 0))
  eq : ∀ x, s.it = some x → p = x.p ∧ q = x.q

theorem FS.alloc {w : World} {B lb fb : Nat} {wr : World} {s : Bw} {v : Value} {p q : Int} (h : FS w B lb fb wr s v p q) (hB : B ≤ wr.heap.size) (o : Obj) : FS w B lb fb (wr.alloc o) s v p q :=
  ⟨h.old.alloc hB o, h.log.keep (S := fun _ => False) (Touch.below ((Below.refl _ _).alloc (Nat.le_refl _) o)) (fun x => x) (fun _ _ x => x), (Below.heap_alloc wr o fb (Array.getElem?_eq_some_iff.1 h.fnd).1).trans h.fnd, h.eq⟩

theorem FS.below {w : World} {B lb fb : Nat} {wr W' : World} {s : Bw} {v : Value} {p q : Int} (h : FS w B lb fb wr s v p q) (hB : B ≤ w.heap.size) (hb : Below wr.heap.size wr W') : FS w B lb fb W' s v p q :=
  ⟨h.old.trans (hb.mono (Nat.le_trans hB h.old.size)), h.log.keep (S := fun _ => False) (Touch.below hb) (fun x => x) (fun _ _ x => x), (hb.block fb (Array.getElem?_eq_some_iff.1 h.fnd).1).trans h.fnd, h.eq⟩

theorem FS.drew {w : World} {B lb fb : Nat} {wr : World} {s : Bw} {v : Value} {p q : Int} (h : FS w B lb fb wr s v p q) : FS w B lb fb wr.drew s v p q :=
  ⟨⟨h.old.os, h.old.tape, h.old.output, h.old.size, h.old.block⟩, ⟨h.log.box, h.log.row⟩, h.fnd, h.eq⟩

/-- Behind a call of the closure. -/
theorem FS.asked {w : World} {B lb fb : Nat} {wr W' : World} {s : Bw} {v v' : Value} {p q : Int} {x : Nat} (h : FS w B lb fb wr s v p q) (hB : B ≤ lb) (hBs : B ≤ wr.heap.size) (hl : LogAt W' B lb v' (s.log ++ [x])) (ht : Touch (fun k => k = lb ∨ v.ownBlock = some k) wr W') : FS w B lb fb W' ⟨s.it, s.log ++ [x]⟩ v' p q := by
  refine ⟨h.old.trans (ht.toBelow ?_ hBs), hl, (ht.block fb (Array.getElem?_eq_some_iff.1 h.fnd).1 ?_).trans h.fnd, h.eq⟩
  · rintro k (e | e)
    · omega
    · exact (h.log.row.lt k e).1
  · rintro (e | e)
    · have := h.log.box
      rw [← e, h.fnd] at this; cases this
    · exact own_ne h.log.row h.fnd (by decide) e

theorem FS.found {w : World} {B lb fb : Nat} {wr : World} {s : Bw} {v : Value} {p q : Int} (h : FS w B lb fb wr s v p q) (hf : B ≤ fb) (hne : fb ≠ lb) (y : Held) :
    FS w B lb fb ((wr.setCell ⟨fb, 0, none⟩ (.int .i64 y.p)).setCell ⟨fb, 1, none⟩ (.int .i64 y.q)) ⟨some y, s.log⟩ v y.p y.q := by
  have hT : Touch (fun k => k = fb) wr ((wr.setCell ⟨fb, 0, none⟩ (.int .i64 y.p)).setCell ⟨fb, 1, none⟩ (.int .i64 y.q)) := ((Touch.refl (fun k => k = fb) wr).set (p := ⟨fb, 0, none⟩) rfl _).set (p := ⟨fb, 1, none⟩) rfl _
  refine ⟨(h.old.setCell (p := ⟨fb, 0, none⟩) hf _).setCell (p := ⟨fb, 1, none⟩) hf _, h.log.keep hT (fun e => hne e.symm) (fun k hk e => own_ne h.log.row h.fnd (by decide) (by rw [← e]; exact hk)), ?_, fun x hx => by cases hx; exact ⟨rfl, rfl⟩⟩
  have hset : ∀ {W : World} {c : Array Value} {o : Nat} {u : Value}, W.heap[fb]? = some (.cells c 28 (0, 0)) → (W.setCell ⟨fb, o, none⟩ u).heap[fb]? = some (.cells (c.setIfInBounds o u) 28 (0, 0)) := by
    intro W c o u hc
    show (W.heap.modify fb _)[fb]? = _
    rw [Array.getElem?_modify, if_pos rfl, hc]
    simp
  exact hset (hset h.fnd)

theorem FS.cells {w : World} {B lb fb : Nat} {wr : World} {s : Bw} {v : Value} {p q : Int} (h : FS w B lb fb wr s v p q) : wr.cell? ⟨fb, 0, none⟩ = some (.int .i64 p) ∧ wr.cell? ⟨fb, 1, none⟩ = some (.int .i64 q) ∧ ∀ o, wr.frozen? ⟨fb, o, none⟩ = false := by
  refine ⟨by simp [World.cell?, h.fnd], by simp [World.cell?, h.fnd], fun o => by simp [World.frozen?, h.fnd]⟩

section
variable {base tb : Nat} {T : Tree} {l : Lay}

set_option maxHeartbeats 4000000 in
set_option maxRecDepth 100000 in
theorem bestWhere8 (w : World) (h : TS w base tb T l) (hH : HW T) (B lb kb N i ex : Nat) (v0 : Value) (ka : Option Addr) (kn kc : Nat) (ks : Nat → Bool) (hown : ∀ j, l.owns j → j < B) (htb : tb < B) (hlog : LogAt w B lb v0 []) (hB : B ≤ lb) (hk : w.cell? ⟨kb, 0, none⟩ = some (.slice ka kn kc)) (hkb : kb < B) (hr : Row1 w N ka kn ks) (hN : N ≤ B)
    (hlv : T.lv = 2 ^ ex) (hex : ex ≤ 4) (hi : i < 2 ^ ex) (hhd : T.hd.length = 2 * 2 ^ ex) (hst : T.st.length ≤ 80000) (hof : ∀ k, (T.off.getD k []).length ≤ 1000) (hnn : ∀ k, ∀ y ∈ T.off.getD k [], y.n ≤ 1000) (hM : (visits T (2 ^ ex + i)).length ≤ 100000000) :
    Calls Yba.prog 8 #[.pointer (some ⟨tb, 0, none⟩), .int .i64 i, .func (.func 9) #[] #[.pointer (some ⟨lb, 0, none⟩), .pointer (some ⟨kb, 0, none⟩)]] w fun e W' =>
      e = .returned (.tuple #[.int .i64 (itv (Bw.init.run (keepv kn ks) (visits T (2 ^ ex + i)))), .bool (Bw.init.run (keepv kn ks) (visits T (2 ^ ex + i))).it.isSome]) ∧
      ∃ v, LogAt W' B lb v (Bw.init.run (keepv kn ks) (visits T (2 ^ ex + i))).log ∧ Below B w W' := by
  have hlb : lb < w.heap.size := (Array.getElem?_eq_some_iff.1 hlog.box).1
  have hBs : B ≤ w.heap.size := by omega
  have h2e : 2 ^ ex ≤ 16 := Nat.le_trans (Nat.pow_le_pow_right (by omega) hex) (by decide)
  obtain ⟨gH, cH, hvH⟩ := h.heads.block (by have := Nat.one_le_two_pow (n := ex); omega)
  have c0 := h.c0
  have hwi : IntKind.i64.wrap ((T.lv : Int) + (i : Int)) = ((2 ^ ex + i : Nat) : Int) := by
    rw [IntKind.wrap_i64, hlv]; omega
  obtain ⟨K0, hK0⟩ : ∃ K0, 2 ^ ex + i = K0 := ⟨_, rfl⟩
  rw [hK0] at hwi hM ⊢
  obtain ⟨fin, hfin⟩ : ∃ fin, Bw.init.run (keepv kn ks) (visits T K0) = fin := ⟨_, rfl⟩
  rw [hfin]
  have HF : Hid (Bw.init.run (keepv kn ks) (visits T K0) = fin) := hfin
  have HT : Hid (TS w base tb T l) := h
  have HHW : Hid (HW T) := hH
  have HOwn : Hid (∀ j, l.owns j → j < B) := hown
  have HK : Hid (w.cell? ⟨kb, 0, none⟩ = some (.slice ka kn kc)) := hk
  have HR : Hid (Row1 w N ka kn ks) := hr
  have HNum : Hid (K0 < 2 * 2 ^ ex ∧ 2 ^ ex ≤ 16 ∧ T.hd.length = 2 * 2 ^ ex ∧ T.st.length ≤ 80000 ∧ B ≤ w.heap.size ∧ lb < w.heap.size ∧ B ≤ lb ∧ kb < B ∧ N ≤ B ∧ tb < B ∧ (visits T K0).length ≤ 100000000) := ⟨by omega, h2e, hhd, hst, hBs, hlb, hB, hkb, hN, htb, hM⟩
  have HOf : Hid (∀ k, (T.off.getD k []).length ≤ 1000) := hof
  have HNn : Hid (∀ k, ∀ y ∈ T.off.getD k [], y.n ≤ 1000) := hnn
  have HVH : Hid (l.vH = .slice (some ⟨gH, 0, none⟩) T.hd.length cH) := hvH
  have hFS : FS w B lb w.heap.size (w.alloc (.cells #[.int .i64 0, .int .i64 0] 28)) Bw.init v0 0 0 :=
    ⟨(Below.refl _ w).alloc hBs _, hlog.keep (S := fun _ => False) (Touch.below ((Below.refl _ _).alloc (Nat.le_refl _) _)) (fun x => x) (fun _ _ x => x), World.alloc_heap_new _ _, fun x hx => by simp [Bw.init] at hx⟩
  have ltb : tb < w.heap.size := by omega
  clear h hH hown hk hr hof hnn hvH hlog hfin hM hex hi hhd hst hlv hK0 h2e hB hkb hN
  go_enter Yba.func8, Yba.ntmps8
  go_wp2_with fail
  go_loopg [9, 10] (K0 + 1) (fun gh it kv wr => ∃ (k : Nat) (s : Bw) (v : Value) (p q : Int), it = .int .i64 (itv s) ∧ kv = .int .i64 k ∧ k ≤ K0 ∧ FS w B lb w.heap.size wr s v p q ∧ Hid (s.run (keepv kn ks) (visits T k) = fin) ∧ Hid (s.log.length + (visits T k).length ≤ 100000000) ∧ k + 1 ≤ gh)
  case atStart => exact ⟨K0, Bw.init, v0, 0, 0, rfl, rfl, Nat.le_refl _, hFS, HF, (show Bw.init.log.length + (visits T K0).length ≤ 100000000 by have := HNum.out.2.2.2.2.2.2.2.2.2.2; simpa [Bw.init] using this), Nat.le_refl _⟩
  case round =>
    clear hFS
    obtain ⟨k, s, v, p, q, rfl, rfl, hkK, hFS, HE, HLn, hgh⟩ := hrel
    by_cases hk0 : k = 0
    · subst hk0
      have hfs : s = fin := by have := HE.out; rwa [visits_zero, Bw.run_nil] at this
      have hge : (decide ((0 : Int) ≤ itv s)) = s.it.isSome := by
        unfold itv; cases s.it <;> simp
      go_wp2
      refine bodyPost_ret (results_tmp2 rfl _ _ _) rfl ?_
      refine ⟨?_, v, by rw [← hfs]; exact hFS.log, hFS.old⟩
      rw [← hfs, ← hge]; rfl
    · have hkp : (0 : Int) < (k : Int) := by omega
      have hkn : 0 < k := by omega
      obtain ⟨hKl, h16, hhd, hst, hBs, hlb', hB, hkb, hN, htb', -⟩ := HNum.out
      have hkl : k < T.hd.length := by omega
      have k1 : (k : Int) < (T.hd.length : Int) := by omega
      have k0 : (0 : Int) ≤ (k : Int) := by omega
      have hqH : l.vH.ownBlock = some gH := by rw [HVH.out]; rfl
      have hgHB : gH < B := HOwn.out gH (.inr (.inr (.inl hqH)))
      have c6 : w.cell? ⟨tb, 6, none⟩ = some (.slice (some ⟨gH, 0, none⟩) T.hd.length cH) := by rw [← HVH.out]; exact HT.out.c6
      have d6 := (hFS.old.cell (p := ⟨tb, 6, none⟩) htb').trans c6
      have hQ := HT.out.heads.queue hqH hkl HT.out.c8 HT.out.rSA HT.out.tt
      obtain ⟨aK, cK, hvK⟩ := slice_form hQ.own
      have dK := (hFS.old.cell (p := ⟨gH, k * 2, none⟩) hgHB).trans hQ.it
      obtain ⟨hs, hhs⟩ : ∃ hs, T.hd.getD k [] = hs := ⟨_, rfl⟩
      obtain ⟨L, hL⟩ : ∃ L, hs.length = L := ⟨_, rfl⟩
      have hLL : (Qu.mk (T.hd.getD k []) T.sAt).it.length = L := by rw [← hL, ← hhs]
      rw [hvK, hLL] at dK
      have HOwnK : Hid (w.ownsRow base 72 3 (.slice aK L cK) L (flat hs)) := by
        have := hQ.own
        rw [hvK, hLL] at this
        rw [show (Qu.mk (T.hd.getD k []) T.sAt).it = hs from hhs] at this
        exact this
      have HaB : Hid (∀ b, (Value.slice aK L cK).ownBlock = some b → b < B) := fun b hb => HOwn.out b (.inr (.inr (.inr (.inr (.inr (.inr (.inr ⟨k, by rw [hvK, hLL]; exact hb⟩)))))))
      have hL80 : L ≤ 80000 := by
        have h1 := Qu.WF.len (HHW.out.wf k hkl)
        have h2 : (T.hd.getD k []).length ≤ T.sAt.length := h1
        rw [← HHW.out.len, hhs, hL] at h2
        omega
      have Hmem : Hid (∀ y ∈ hs, ∃ p, T.st[y.n]? = some p ∧ p.2 = (k : Int)) := by rw [← hhs]; exact HHW.out.mem k hkl
      have HE2 : Hid (s.run (keepv kn ks) (visit T hs ++ visits T (k / 2)) = fin) := (by rw [← hhs, ← visits_pos T hk0]; exact HE.out : s.run (keepv kn ks) (visit T hs ++ visits T (k / 2)) = fin)
      have HLn2 : Hid (s.log.length + (visit T hs ++ visits T (k / 2)).length ≤ 100000000) := (by rw [← hhs, ← visits_pos T hk0]; exact HLn.out : s.log.length + (visit T hs ++ visits T (k / 2)).length ≤ 100000000)
      have Hk2 : Hid (((k : Int)).tdiv 2 = ((k / 2 : Nat) : Int) ∧ IntKind.i64.wrap ((k / 2 : Nat) : Int) = ((k / 2 : Nat) : Int) ∧ k / 2 ≤ K0 ∧ k / 2 + 1 < k + 1 ∧ k + 1 ≤ _) := ⟨by rw [Int.tdiv_eq_ediv_of_nonneg (by omega)]; omega, by rw [IntKind.wrap_i64]; omega, by omega, by omega, hgh⟩
      have HLb : Hid (hs.length = L ∧ L ≤ 80000) := ⟨hL, hL80⟩
      clear hQ hvK hLL HE HLn hgh c6 hhs hL hL80 hhd hst hKl h16
      go_wp2_with fail
      go_loopg [9, 35] (L + 1) (fun gh it av wr => ∃ (a : Nat) (s : Bw) (v : Value) (p q : Int), it = .int .i64 (itv s) ∧ av = .int .i64 a ∧ a ≤ L ∧ FS w B lb w.heap.size wr s v p q ∧ Hid (s.run (keepv kn ks) (visit T (hs.drop a) ++ visits T (k / 2)) = fin) ∧ Hid (s.log.length + (visit T (hs.drop a) ++ visits T (k / 2)).length ≤ 100000000) ∧ L + 1 - a ≤ gh)
      case atStart => exact ⟨0, s, v, p, q, rfl, rfl, Nat.zero_le _, hFS, HE2, HLn2, Nat.le_refl _⟩
      case round =>
        clear hFS HE2 HLn2 d6 dK
        obtain ⟨a, s, v, p, q, rfl, rfl, haL, hFS, HE, HLn, hgh⟩ := hrel
        by_cases haL2 : a < L
        · have t1 : (a : Int) < (L : Int) := by omega
          have t0 : (0 : Int) ≤ (a : Int) := by omega
          obtain ⟨hKl, h16, hhd, hst, hBs, hlb', hB, hkb, hN, htb', -⟩ := HNum.out
          have hal : a < hs.length := by rw [HLb.out.1]; exact haL2
          obtain ⟨gK, cK', hgK, -⟩ := HOwnK.out.form (by omega)
          obtain rfl : aK = some ⟨gK, 0, none⟩ := (Value.slice.inj hgK).1
          have hgKB : gK < B := HaB.out gK rfl
          obtain ⟨x0, x1, x2⟩ := flat_get hs a hal
          have y0 := (hFS.old.cell (p := ⟨gK, a * 3, none⟩) hgKB).trans (own_cell HOwnK.out rfl x0)
          have y1 := (hFS.old.cell (p := ⟨gK, a * 3 + 1, none⟩) hgKB).trans (own_cell HOwnK.out rfl x1)
          have y2 := (hFS.old.cell (p := ⟨gK, a * 3 + 2, none⟩) hgKB).trans (own_cell HOwnK.out rfl x2)
          obtain ⟨⟨od, nd⟩, hst1, hst2⟩ := Hmem.out _ (List.getElem_mem hal)
          obtain ⟨hx, hhx⟩ : ∃ hx, hs[a] = hx := ⟨_, rfl⟩
          rw [hhx] at y0 y1 y2 hst1
          obtain ⟨_, oo, hoo, hol⟩ := HHW.out.nodes _ _ hst1
          simp only [] at hoo hst2
          subst hoo
          have hsl : hx.n < T.st.length := (List.getElem?_eq_some_iff.1 hst1).1
          obtain ⟨gS, cS, hvS, -⟩ := HT.out.rS.form (by omega)
          obtain ⟨gO, cO, hvO⟩ := HT.out.offs.block (by omega)
          have hqS : l.vS.ownBlock = some gS := by rw [hvS]; rfl
          have hqO : l.vO.ownBlock = some gO := by rw [hvO]; rfl
          have hgSB : gS < B := HOwn.out gS (.inr (.inr (.inr (.inl hqS))))
          have hgOB : gO < B := HOwn.out gO (.inl hqO)
          obtain ⟨z1, _⟩ := pairs_get T.st hx.n _ hst1
          have s0 : wr.cell? ⟨gS, hx.n * 2, none⟩ = some (.int .i64 (oo : Int)) := (hFS.old.cell (p := ⟨gS, hx.n * 2, none⟩) hgSB).trans (own_cell HT.out.rS hqS z1)
          have s7 : wr.cell? ⟨tb, 7, none⟩ = some (.slice (some ⟨gS, 0, none⟩) T.st.length cS) := (hFS.old.cell (p := ⟨tb, 7, none⟩) htb').trans (by rw [← hvS]; exact HT.out.c7)
          have s4 : wr.cell? ⟨tb, 4, none⟩ = some (.slice (some ⟨gO, 0, none⟩) T.off.length cO) := (hFS.old.cell (p := ⟨tb, 4, none⟩) htb').trans (by rw [← hvO]; exact HT.out.c4)
          have hQ := HT.out.offs.queue hqO hol HT.out.c5 HT.out.rA HT.out.tt
          obtain ⟨aI, cI, hvI⟩ := slice_form hQ.own
          obtain ⟨its, hits⟩ : ∃ its, T.off.getD oo [] = its := ⟨_, rfl⟩
          obtain ⟨M, hM⟩ : ∃ M, its.length = M := ⟨_, rfl⟩
          have hMM : (Qu.mk (T.off.getD oo []) T.oAt).it.length = M := by rw [← hM, ← hits]
          have sI := (hFS.old.cell (p := ⟨gO, oo * 2, none⟩) hgOB).trans hQ.it
          rw [hvI, hMM] at sI
          have HOwnI : Hid (w.ownsRow base 72 3 (.slice aI M cI) M (flat its)) := by
            have := hQ.own
            rw [hvI, hMM] at this
            rw [show (Qu.mk (T.off.getD oo []) T.oAt).it = its from hits] at this
            exact this
          have HaI : Hid (∀ b, (Value.slice aI M cI).ownBlock = some b → b < B) := fun b hb => HOwn.out b (.inr (.inr (.inr (.inr (.inr (.inr (.inl ⟨oo, by rw [hvI, hMM]; exact hb⟩)))))))
          have hM1 : M ≤ 1000 := by have := HOf.out oo; rw [hits, hM] at this; exact this
          have Hnn : Hid (∀ y ∈ its, y.n ≤ 1000) := by rw [← hits]; exact HNn.out oo
          have hdr : hs.drop a = hx :: hs.drop (a + 1) := by rw [List.drop_eq_getElem_cons hal, hhx]
          have hgd : T.off.getD ((T.st.getD hx.n (0, 0)).1.toNat) [] = its := by
            have e : T.st.getD hx.n (0, 0) = ((oo : Int), nd) := by rw [List.getD_eq_getElem?_getD, hst1]; rfl
            rw [e]
            show T.off.getD ((oo : Int).toNat) [] = its
            rw [Int.toNat_natCast]; exact hits
          have hvis : visit T (hs.drop a) = its ++ visit T (hs.drop (a + 1)) := by
            rw [hdr]; simp only [visit, List.flatMap_cons]; rw [hgd]
          obtain ⟨R, hR⟩ : ∃ R, visit T (hs.drop (a + 1)) ++ visits T (k / 2) = R := ⟨_, rfl⟩
          have HR' : Hid (visit T (hs.drop (a + 1)) ++ visits T (k / 2) = R) := hR
          have HE2 : Hid (s.run (keepv kn ks) (its ++ R) = fin) := (by have := HE.out; rwa [hvis, List.append_assoc, hR] at this : s.run (keepv kn ks) (its ++ R) = fin)
          have HLn2 : Hid (s.log.length + (its ++ R).length ≤ 100000000) := (by have := HLn.out; rwa [hvis, List.append_assoc, hR] at this : s.log.length + (its ++ R).length ≤ 100000000)
          have q1 : (0 : Int) ≤ (hx.n : Int) := by omega
          have q2 : (hx.n : Int) < (T.st.length : Int) := by omega
          have q3 : (0 : Int) ≤ (oo : Int) := by omega
          have q4 : (oo : Int) < (T.off.length : Int) := by omega
          have wra : IntKind.i64.wrap ((a : Int) + 1) = (a : Int) + 1 := by have := HLb.out.2; rw [IntKind.wrap_i64]; omega
          have Hga : Hid (L + 1 - (a + 1) < L + 1 - a ∧ L + 1 - a ≤ _ ∧ a + 1 ≤ L) := ⟨by omega, hgh, by omega⟩
          have HM1 : Hid (its.length = M ∧ M ≤ 1000) := ⟨hM, hM1⟩
          have hBw : B ≤ wr.heap.size := Nat.le_trans hBs hFS.old.size
          have hFSe := hFS.alloc hBw (.cells #[.int .i64 (hx.n : Int), .int .i64 hx.p, .int .i64 hx.q] 72)
          have lb1 := World.block_lt_of_cell? _ _ s0
          have lb2 := World.block_lt_of_cell? _ _ s7
          have lb3 := World.block_lt_of_cell? _ _ sI
          clear hQ hvI hMM hits hM hM1 hdr hgd hvis hR HE HLn hgh hal hgK x0 x1 x2 hst1 hst2 hhx hsl hvS hvO z1 hKl h16 hhd hst hol hFS
          go_upto_region 8 with fail
          obtain ⟨We, hWe⟩ : ∃ We, wr.alloc (.cells #[.int .i64 (hx.n : Int), .int .i64 hx.p, .int .i64 hx.q] 72) = We := ⟨_, rfl⟩
          have hbe : Below wr.heap.size wr We := by rw [← hWe]; exact (Below.refl _ _).alloc (Nat.le_refl _) _
          have r0 : We.cell? ⟨wr.heap.size, 0, none⟩ = some (.int .i64 (hx.n : Int)) := by rw [← hWe]; simp
          have r1 := cell_below hbe s0
          have r2 := cell_below hbe s7
          have r3 := cell_below hbe s4
          have r4 := cell_below hbe sI
          rw [hWe] at hFSe ⊢
          clear hWe s0 s7 s4 sI y0 y1 y2
          go_quiet (fail)
          generalize hWq : World.drewN We _ = Wq
          have hFSq : FS w B lb w.heap.size Wq s v p q := by
            rw [← hWq]
            exact ⟨⟨hFSe.old.os, hFSe.old.tape, hFSe.old.output, hFSe.old.size, hFSe.old.block⟩, ⟨hFSe.log.box, hFSe.log.row⟩, hFSe.fnd, hFSe.eq⟩
          clear hWq r0 r1 r2 r3 r4 hFSe hbe lb1 lb2 lb3 q1 q2 q3 q4
          go_wp2_with fail
          go_loopg [9, 56] (M + 1) (fun gh it bv wr => ∃ (b : Nat) (s : Bw) (v : Value) (p q : Int), it = .int .i64 (itv s) ∧ bv = .int .i64 b ∧ b ≤ M ∧ FS w B lb w.heap.size wr s v p q ∧ Hid (s.run (keepv kn ks) (its.drop b ++ R) = fin) ∧ Hid (s.log.length + (its.drop b ++ R).length ≤ 100000000) ∧ M + 1 - b ≤ gh)
          case atStart => exact ⟨0, s, v, p, q, rfl, rfl, Nat.zero_le _, hFSq, HE2, HLn2, Nat.le_refl _⟩
          case round =>
            clear hFSq HE2 HLn2
            obtain ⟨b, s, v, p, q, rfl, rfl, hbM, hFS, HE, HLn, hgh⟩ := hrel
            by_cases hbM2 : b < M
            · have t2 : (b : Int) < (M : Int) := by omega
              have t3 : (0 : Int) ≤ (b : Int) := by omega
              obtain ⟨-, -, -, -, hBs, hlb', hB, hkb, hN, htb', -⟩ := HNum.out
              have hbl : b < its.length := by rw [HM1.out.1]; exact hbM2
              obtain ⟨gI, cI', hgI, -⟩ := HOwnI.out.form (by omega)
              obtain rfl : aI = some ⟨gI, 0, none⟩ := (Value.slice.inj hgI).1
              have hgIB : gI < B := HaI.out gI rfl
              obtain ⟨x0, x1, x2⟩ := flat_get its b hbl
              have y0 := (hFS.old.cell (p := ⟨gI, b * 3, none⟩) hgIB).trans (own_cell HOwnI.out rfl x0)
              have y1 := (hFS.old.cell (p := ⟨gI, b * 3 + 1, none⟩) hgIB).trans (own_cell HOwnI.out rfl x1)
              have y2 := (hFS.old.cell (p := ⟨gI, b * 3 + 2, none⟩) hgIB).trans (own_cell HOwnI.out rfl x2)
              have hyn := Hnn.out _ (List.getElem_mem hbl)
              have hdr := List.drop_eq_getElem_cons hbl
              obtain ⟨y, hy⟩ : ∃ y, its[b] = y := ⟨_, rfl⟩
              rw [hy] at y0 y1 y2 hyn hdr
              have HE2 : Hid ((s.step (keepv kn ks) y).run (keepv kn ks) (its.drop (b + 1) ++ R) = fin) := (by have := HE.out; rw [hdr, List.cons_append, Bw.run_cons] at this; exact this : (s.step (keepv kn ks) y).run (keepv kn ks) (its.drop (b + 1) ++ R) = fin)
              have hln := HLn.out
              rw [hdr, List.cons_append, List.length_cons] at hln
              have HLn2 : Hid ((s.step (keepv kn ks) y).log.length + (its.drop (b + 1) ++ R).length ≤ 100000000) := by
                have h2 : (s.step (keepv kn ks) y).log.length ≤ s.log.length + 1 := by unfold Bw.step; split <;> simp
                show _ ≤ _
                omega
              have hlog8 : s.log.length ≤ 100000000 := by omega
              have wrb : IntKind.i64.wrap ((b : Int) + 1) = (b : Int) + 1 := by have := HM1.out.2; rw [IntKind.wrap_i64]; omega
              have Hgb : Hid (M + 1 - (b + 1) < M + 1 - b ∧ M + 1 - b ≤ _ ∧ b + 1 ≤ M) := ⟨by omega, hgh, by omega⟩
              have hBw : B ≤ wr.heap.size := Nat.le_trans hBs hFS.old.size
              have hFSe := hFS.alloc hBw (.cells #[.int .i64 (y.n : Int), .int .i64 y.p, .int .i64 y.q] 72)
              have Hlg : Hid (s.log.length ≤ 100000000 ∧ y.n ≤ 1000 ∧ B ≤ lb ∧ kb < B ∧ N ≤ B ∧ B ≤ wr.heap.size ∧ B ≤ w.heap.size ∧ lb < w.heap.size) := ⟨hlog8, hyn, hB, hkb, hN, hBw, hBs, hlb'⟩
              clear hln hlog8 hyn hdr x0 x1 x2 hgI HE HLn hgh hbl hy
              go_upto_region 11 with fail
              obtain ⟨We, hWe⟩ : ∃ We, wr.alloc (.cells #[.int .i64 (y.n : Int), .int .i64 y.p, .int .i64 y.q] 72) = We := ⟨_, rfl⟩
              have hbe : Below wr.heap.size wr We := by rw [← hWe]; exact (Below.refl _ _).alloc (Nat.le_refl _) _
              have r0 : We.cell? ⟨wr.heap.size, 0, none⟩ = some (.int .i64 (y.n : Int)) := by rw [← hWe]; simp
              have r1 : We.cell? ⟨wr.heap.size, 1, none⟩ = some (.int .i64 y.p) := by rw [← hWe]; simp
              have r2 : We.cell? ⟨wr.heap.size, 2, none⟩ = some (.int .i64 y.q) := by rw [← hWe]; simp
              have hyb : We.heap[wr.heap.size]? = some (.cells #[.int .i64 (y.n : Int), .int .i64 y.p, .int .i64 y.q] 72 (0, 0)) := by rw [← hWe]; exact World.alloc_heap_new _ _
              rw [hWe] at hFSe ⊢
              clear hWe y0 y1 y2 hFS
              obtain ⟨f0, f1, ff⟩ := hFSe.cells
              -- BEHIND THE QUESTION
              have hask : Hid (∀ (W1 : World), FS w B lb w.heap.size W1 s v p q → W1.heap[wr.heap.size]? = some (.cells #[.int .i64 (y.n : Int), .int .i64 y.p, .int .i64 y.q] 72 (0, 0)) →
                  Calls Yba.prog 9 #[.int .i64 (y.n : Int), .pointer (some ⟨lb, 0, none⟩), .pointer (some ⟨kb, 0, none⟩)] W1 fun e W' => e = .returned (.bool (keepv kn ks y.n)) ∧ ∃ v', FS w B lb w.heap.size W' ⟨s.it, s.log ++ [y.n]⟩ v' p q ∧ W'.heap[wr.heap.size]? = some (.cells #[.int .i64 (y.n : Int), .int .i64 y.p, .int .i64 y.q] 72 (0, 0))) := by
                show ∀ _, _
                intro W1 hF hyb1
                obtain ⟨a1, a2, a3, a4, a5, a6, a7, a8⟩ := Hlg.out
                have hr1 := HR.out.below (hF.old.mono a5)
                refine (call9 W1 B lb kb y.n N v s.log ka kn kc ks hF.log a3 ((hF.old.cell (p := ⟨kb, 0, none⟩) a4).trans HK.out) a4 hr1 a5 a1 (by omega)).mono ?_
                rintro e W' ⟨rfl, v', hl', hT', _⟩
                refine ⟨rfl, v', hF.asked a3 (Nat.le_trans a7 hF.old.size) hl' hT', (hT'.block _ (Array.getElem?_eq_some_iff.1 hyb1).1 ?_).trans hyb1⟩
                rintro (e | e)
                · rw [e, hF.log.box] at hyb1; cases hyb1
                · exact own_ne hF.log.row hyb1 (by decide) e
              cases hit : s.it with
              | none =>
                have hst1 : s.step (keepv kn ks) y = ⟨if keepv kn ks y.n then some y else none, s.log ++ [y.n]⟩ := by simp [Bw.step, Bw.wants, hit]
                have hi1 : itv s = -1 := by simp [itv, hit]
                rw [hst1] at HE2 HLn2
                rw [hi1]
                rw [hit] at hask
                clear hst1 hi1 f0 f1
                go_wp2_with fail
                refine (hask.out We hFSe hyb).mono ?_
                rintro e W3 ⟨rfl, v3, hF3, hyb3⟩
                cases hkp3 : keepv kn ks y.n with
                | false =>
                  rw [hkp3] at HE2
                  go_wp2
                  go_roundg (M + 1 - (b + 1))
                  case measure => exact Nat.lt_of_lt_of_le Hgb.out.1 Hgb.out.2.1
                  case rel => exact ⟨b + 1, ⟨none, s.log ++ [y.n]⟩, v3, p, q, rfl, rfl, Hgb.out.2.2, hF3, HE2, HLn2, Nat.le_refl _⟩
                | true =>
                  rw [hkp3] at HE2
                  have u0 : W3.cell? ⟨wr.heap.size, 0, none⟩ = some (.int .i64 (y.n : Int)) := by simp [World.cell?, hyb3]
                  have u1 : W3.cell? ⟨wr.heap.size, 1, none⟩ = some (.int .i64 y.p) := by simp [World.cell?, hyb3]
                  have u2 : W3.cell? ⟨wr.heap.size, 2, none⟩ = some (.int .i64 y.q) := by simp [World.cell?, hyb3]
                  obtain ⟨g0, g1, gf⟩ := hF3.cells
                  have gf0 := gf 0
                  have gf1 := gf 1
                  have hne : w.heap.size ≠ lb := by have := Hlg.out.2.2.2.2.2.2.2; omega
                  have hF4 := (hF3.found Hlg.out.2.2.2.2.2.2.1 hne y).drew
                  have hne2 : wr.heap.size ≠ w.heap.size := by
                    intro e; rw [e, hF3.fnd] at hyb3; cases hyb3
                  clear hF3 hyb3
                  go_upto_region 12 with fail
                  go_region
                  go_wp2
                  go_roundg (M + 1 - (b + 1))
                  case measure => exact Nat.lt_of_lt_of_le Hgb.out.1 Hgb.out.2.1
                  case rel => exact ⟨b + 1, ⟨some y, s.log ++ [y.n]⟩, v3, y.p, y.q, rfl, rfl, Hgb.out.2.2, hF4, HE2, HLn2, Nat.le_refl _⟩
              | some x =>
                obtain ⟨hpx, hqx⟩ := hFSe.eq x hit
                have hi1 : itv s = (x.n : Int) := by simp [itv, hit]
                have hi2 : ¬ ((x.n : Int) < 0) := by omega
                have hi3 : decide ((x.n : Int) < 0) = false := by simp
                rw [hi1]
                cases hlw : lower p q y.p y.q with
                | false =>
                  have hst1 : s.step (keepv kn ks) y = s := by
                    have : s.wants y = false := by simp only [Bw.wants, hit]; rw [← hpx, ← hqx]; exact hlw
                    simp [Bw.step, this]
                  rw [hst1] at HE2 HLn2
                  clear hst1 hpx hqx
                  go_wp2_with (go_at_call 21; refine (below21 _ _ _ _ _).mono ?_; rintro e W1 ⟨rfl, hb1⟩; rw [hlw])
                  have hF1 := hFSe.below Hlg.out.2.2.2.2.2.2.1 hb1
                  go_roundg (M + 1 - (b + 1))
                  case measure => exact Nat.lt_of_lt_of_le Hgb.out.1 Hgb.out.2.1
                  case rel => exact ⟨b + 1, s, v, p, q, by rw [hi1], rfl, Hgb.out.2.2, hF1, HE2, HLn2, Nat.le_refl _⟩
                | true =>
                  have hst1 : s.step (keepv kn ks) y = ⟨if keepv kn ks y.n then some y else s.it, s.log ++ [y.n]⟩ := by
                    have : s.wants y = true := by simp only [Bw.wants, hit]; rw [← hpx, ← hqx]; exact hlw
                    simp [Bw.step, this]
                  rw [hst1] at HE2 HLn2
                  clear hst1 hpx hqx
                  go_wp2_with (go_at_call 21; refine (below21 _ _ _ _ _).mono ?_; rintro e W1 ⟨rfl, hb1⟩; rw [hlw]; have n0 : W1.cell? ⟨wr.heap.size, 0, none⟩ = some (.int .i64 (y.n : Int)) := cell_below hb1 r0)
                  have hF1 := hFSe.below Hlg.out.2.2.2.2.2.2.1 hb1
                  have hyb1 := (hb1.block _ (Array.getElem?_eq_some_iff.1 hyb).1).trans hyb
                  refine (hask.out W1 hF1 hyb1).mono ?_
                  rintro e W3 ⟨rfl, v3, hF3, hyb3⟩
                  cases hkp3 : keepv kn ks y.n with
                  | false =>
                    rw [hkp3] at HE2
                    go_wp2
                    go_roundg (M + 1 - (b + 1))
                    case measure => exact Nat.lt_of_lt_of_le Hgb.out.1 Hgb.out.2.1
                    case rel => exact ⟨b + 1, ⟨s.it, s.log ++ [y.n]⟩, v3, p, q, by simp [itv, hit], rfl, Hgb.out.2.2, hF3, HE2, HLn2, Nat.le_refl _⟩
                  | true =>
                    rw [hkp3] at HE2
                    have u0 : W3.cell? ⟨wr.heap.size, 0, none⟩ = some (.int .i64 (y.n : Int)) := by simp [World.cell?, hyb3]
                    have u1 : W3.cell? ⟨wr.heap.size, 1, none⟩ = some (.int .i64 y.p) := by simp [World.cell?, hyb3]
                    have u2 : W3.cell? ⟨wr.heap.size, 2, none⟩ = some (.int .i64 y.q) := by simp [World.cell?, hyb3]
                    obtain ⟨g0, g1, gf⟩ := hF3.cells
                    have gf0 := gf 0
                    have gf1 := gf 1
                    have hne : w.heap.size ≠ lb := by have := Hlg.out.2.2.2.2.2.2.2; omega
                    have hF4 := (hF3.found Hlg.out.2.2.2.2.2.2.1 hne y).drew
                    have hne2 : wr.heap.size ≠ w.heap.size := by
                      intro e; rw [e, hF3.fnd] at hyb3; cases hyb3
                    clear hF3 hyb3
                    go_upto_region 12 with fail
                    go_region
                    go_wp2
                    go_roundg (M + 1 - (b + 1))
                    case measure => exact Nat.lt_of_lt_of_le Hgb.out.1 Hgb.out.2.1
                    case rel => exact ⟨b + 1, ⟨some y, s.log ++ [y.n]⟩, v3, y.p, y.q, rfl, rfl, Hgb.out.2.2, hF4, HE2, HLn2, Nat.le_refl _⟩
            · have t2 : ¬ ((b : Int) < (M : Int)) := by omega
              have e0 : its.drop b = [] := List.drop_eq_nil_of_le (by rw [HM1.out.1]; omega)
              have HE3 : Hid (s.run (keepv kn ks) (visit T (hs.drop (a + 1)) ++ visits T (k / 2)) = fin) := (by have := HE.out; rw [e0, List.nil_append, ← HR'.out] at this; exact this : s.run (keepv kn ks) (visit T (hs.drop (a + 1)) ++ visits T (k / 2)) = fin)
              have HLn3 : Hid (s.log.length + (visit T (hs.drop (a + 1)) ++ visits T (k / 2)).length ≤ 100000000) := (by have := HLn.out; rw [e0, List.nil_append, ← HR'.out] at this; exact this : s.log.length + (visit T (hs.drop (a + 1)) ++ visits T (k / 2)).length ≤ 100000000)
              clear e0 HE HLn hgh
              go_wp2
              go_roundg (L + 1 - (a + 1))
              case measure => exact Nat.lt_of_lt_of_le Hga.out.1 Hga.out.2.1
              case rel => exact ⟨a + 1, s, v, p, q, rfl, rfl, Hga.out.2.2, hFS, HE3, HLn3, Nat.le_refl _⟩
        · have t1 : ¬ ((a : Int) < (L : Int)) := by omega
          obtain ⟨g1, g2, g3, g4, g5⟩ := Hk2.out
          have e0 : hs.drop a = [] := List.drop_eq_nil_of_le (by rw [HLb.out.1]; omega)
          have HE3 : Hid (s.run (keepv kn ks) (visits T (k / 2)) = fin) := (by have := HE.out; rw [e0] at this; simpa [visit] using this : s.run (keepv kn ks) (visits T (k / 2)) = fin)
          have HLn3 : Hid (s.log.length + (visits T (k / 2)).length ≤ 100000000) := (by have := HLn.out; rw [e0] at this; simpa [visit] using this : s.log.length + (visits T (k / 2)).length ≤ 100000000)
          obtain ⟨k2, hk2⟩ : ∃ k2, k / 2 = k2 := ⟨_, rfl⟩
          rw [hk2] at g1 g2 g3 g4 HE3 HLn3
          have HG : Hid (k2 + 1 < _ ∧ k2 ≤ K0) := ⟨Nat.lt_of_lt_of_le g4 g5, g3⟩
          clear g3 g4 g5 hk2 HE HLn e0 hgh
          go_wp2
          go_roundg (k2 + 1)
          case measure => exact HG.out.1
          case rel => exact ⟨k2, s, v, p, q, rfl, rfl, HG.out.2, hFS, HE3, HLn3, Nat.le_refl _⟩
end
end Go.Proofs.Ybulkcmtm
