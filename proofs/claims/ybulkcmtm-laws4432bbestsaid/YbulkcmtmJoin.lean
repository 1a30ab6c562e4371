/- (*offerTree).join. -/
import Derived.Test.YbulkcmtmLoop
import Derived.TacticsInMore
namespace Go.Proofs.Ybulkcmtm
open Go.RowKit
attribute [local go_sem] Oper.semAt_some

section
variable {base tb : Nat} {T : Tree} {l : Lay}

set_option maxHeartbeats 8000000 in
set_option maxRecDepth 100000 in
theorem join6 (w : World) (h : TS w base tb T l) (hH : HW T) (k n ex : Nat) (p q : Int) (gf : Nat) (lb : Array Value) (cs : List (Int × Int)) (N : Nat)
    (hlv : T.lv = 2 ^ ex) (hex : ex ≤ 4) (hhd : T.hd.length = 2 * 2 ^ ex) (hk : k < T.off.length) (hks : k < T.so.length) (hoff : T.off.length ≤ 4) (hn : n < T.oAt.length) (hno : ∀ y ∈ T.off.getD k [], y.n ≠ n) (hw : (oq T k).WF) (hm : T.oAt.length ≤ 1000)
    (hst : T.st.length + N * 16 ≤ 80000) (hcs : cs.length ≤ N) (hso : T.so[k]? = some (-1, -1) ∨ ∃ f t : Nat, T.so[k]? = some ((f : Int), (t : Int)) ∧ t ≤ T.st.length)
    (hseq : ∀ w0 : World, Touch (fun j => l.owns j ∨ j = tb) w w0 → SeqStopsK Fence.wide 2 Yba.prog gf lb (fun x : Int × Int => #[.int .i64 x.1, .int .i64 x.2]) (Touch (fun j => l.owns j ∨ j = tb ∨ w.heap.size ≤ j)) (fun xs => xs = cs) (fun _ => True) N w0) (heg : ∀ args w, (callFunc gf args).run Yba.prog w = .ok (.enter gf args) w) :
    CallsIn Fence.wide 3 Yba.prog 6 #[.pointer (some ⟨tb, 0, none⟩), .int .i64 k, .int .i64 n, .agg #[.int .i64 p, .int .i64 q], .func (.func gf) #[] lb] w fun e w' => (∃ v, e = .returned v) ∧
      ∃ T' l', TS w' base tb T' l' ∧ Moves tb l w l' w' ∧ Joined T T' k ex ⟨n, p, q⟩ cs := by
  refine callsIn_of_wp_marks Yba.func6 rfl trivial ?_ rfl
  simp only [Yba.ntmps6, List.size_toArray, List.length_cons, List.length_nil, Nat.reduceAdd, Nat.reduceSub, Array.replicate_succ, Array.replicate_zero, List.push_toArray, List.append_toArray, List.nil_append, List.cons_append]
  refine wpIn_wide.2 (wp_mono ?_ calm_le)
  go_upto_region 1 with fail
  obtain ⟨w3, hw3⟩ : ∃ w3, ((w.alloc (.cells #[.pointer (some ⟨tb, 0, none⟩)] 25)).alloc (.cells #[.int .i64 k] 3)).alloc (.cells #[.int .i64 p, .int .i64 q] 28) = w3 := ⟨_, rfl⟩
  have hb3 : Below w.heap.size w w3 := by rw [← hw3]; exact (((Below.refl _ w).alloc (Nat.le_refl _) _).alloc (by simp) _).alloc (by simp; omega) _
  have hBx : Bx w.heap.size tb k p q w3 := by
    rw [← hw3]
    refine ⟨?_, ?_, ?_⟩
    · rw [Below.heap_alloc _ _ _ (by simp; omega), Below.heap_alloc _ _ _ (by simp)]; exact World.alloc_heap_new _ _
    · rw [Below.heap_alloc _ _ _ (by simp)]
      have := World.alloc_heap_new (w.alloc (.cells #[.pointer (some ⟨tb, 0, none⟩)] 25)) (.cells #[.int .i64 k] 3)
      rwa [World.size_alloc] at this
    · have := World.alloc_heap_new ((w.alloc (.cells #[.pointer (some ⟨tb, 0, none⟩)] 25)).alloc (.cells #[.int .i64 k] 3)) (.cells #[.int .i64 p, .int .i64 q] 28)
      rwa [World.size_alloc, World.size_alloc] at this
  rw [hw3]
  have hT3 := h.below hb3
  have hlt : ∀ j, l.owns j → j < w.heap.size := fun j hj => h.owned_lt hj
  have htb := h.tb_lt
  clear hw3
  obtain ⟨qb, cq, hvO⟩ := hT3.offs.block (by omega)
  have hq : l.vO.ownBlock = some qb := by rw [hvO]; rfl
  have hQ := hT3.offs.queue hq hk hT3.c5 hT3.rA hT3.tt
  have c4 := hT3.c4
  rw [hvO] at c4
  obtain ⟨x0, x1, x2, x3⟩ := hBx.cells
  have i0 : (0 : Int) ≤ (k : Int) := by omega
  have i1 : (k : Int) < (T.off.length : Int) := by omega
  have hb0 : base ≤ w3.heap.size := Nat.le_trans h.lo (by have := hb3.size; omega)
  have hmk := mkI
  have hmk2 : ∀ (v : Value) (w : World), (Instr.makeInterface 72 v).run Yba.prog w = .ok (.iface 72 v) w := by intro v w; kernel_rfl
  have hlen := Qu.WF.len hw
  have HV : Hid (l.vO = .slice (some ⟨qb, 0, none⟩) T.off.length cq) := hvO
  clear hvO
  go_cut [27] from 16 to 27 (fun _ wx => ∃ l1, TS wx base tb (T.offer k ⟨n, p, q⟩) l1 ∧ Moves tb l w3 l1 wx)
  case first =>
    clear hseq heg hst hhd hso hH
    go_region_with ((go_at_call 19; refine (hpush19 _ hQ.drew hw ⟨n, p, q⟩ hn hno (by simp only [oq] at hlen; simp only []; omega) hb0).mono ?_; rintro e W1 ⟨⟨u, rfl⟩, v', hQ1, hT1, ho1, hs1⟩))
    all_goals
      have hT : Touch (fun j => qblocks (l.iO.getD k nilS) l.vA j ∨ j = qb) w3 W1 := ((Touch.refl _ w3).drew).trans hT1
      have hs : qset w3 W1 qb (k * 2) v' := hs1
      have hTS := hT3.updO hq hk hT hs hQ1 ho1
      have hMv := moves_O hT3 hq hk hT ho1
      go_wp2_with fail
      go_meet
      case rel => exact ⟨_, hTS, hMv⟩
  case rest =>
    obtain ⟨l1, hT1, hM1⟩ := hcut
    have hB1 := hBx.keep hlt htb hM1
    have hsame := Qu.hpush_same hw (x := ⟨n, p, q⟩) hn hno
    have hal : ((oq T k).hpush ⟨n, p, q⟩).at_.length = T.oAt.length := by rw [hsame.alen]; simp [Qu.push, oq]
    obtain ⟨z, hz⟩ : ∃ z, ((oq T k).hpush ⟨n, p, q⟩).at_[n]? = some z := ⟨_, List.getElem?_eq_getElem (by rw [hal]; exact hn)⟩
    obtain ⟨y0, y1, y2, y3⟩ := hB1.cells
    have rA := hT1.rA
    have c5 := hT1.c5
    have hlo : (T.offer k ⟨n, p, q⟩).oAt.length = T.oAt.length := hal
    rw [hlo] at rA
    obtain ⟨ab, ca, hvA, _⟩ := rA.form (by omega)
    have cz := own_cell rA (g := ab) (by rw [hvA]; rfl) (j := n) (u := .int .i64 z) (by simp [ints, Tree.offer, hz])
    rw [hvA] at c5
    have j0 : (0 : Int) ≤ (n : Int) := by omega
    have j1 : (n : Int) < (T.oAt.length : Int) := by omega
    have hM : Moves tb l w l1 wc := (Moves.below hb3).trans hM1
    have hHo : HW (T.offer k ⟨n, p, q⟩) := ⟨hH.len, hH.wf, fun s p hp => by simpa [Tree.offer] using hH.nodes s p hp, hH.mem, hH.place⟩
    clear hmk2 hmk c4 x0 x1 x2 x3 hQ hvA hsame hal hlo hno hw hlen
    by_cases hz0 : z = 0
    · subst hz0
      have hz' : ((0 : Int) != 0) = false := rfl
      go_upto_region 3 with fail
      obtain ⟨⟨d1, d2⟩, hd⟩ : ∃ d, T.so[k]? = some d := ⟨_, List.getElem?_eq_getElem hks⟩
      have rSO : wc.ownsRow base 56 2 l1.vSO T.so.length (pairs T.so) := hT1.rSO
      obtain ⟨sb, cso, hvS, _⟩ := rSO.form (by omega)
      obtain ⟨p1, p2⟩ := pairs_get T.so k _ hd
      have e1 := own_cell rSO (g := sb) (by rw [hvS]; rfl) p1
      have c9 := hT1.c9
      rw [hvS] at c9
      have i2 : (k : Int) < (T.so.length : Int) := by omega
      clear cz c5 p1 p2 hvS rSO
      go_quiet (fail)
      go_upto_if 44 with fail
      obtain ⟨wd, hwd⟩ : ∃ wd, wc.drewN nq = wd := ⟨_, rfl⟩
      have hTd : TS wd base tb (T.offer k ⟨n, p, q⟩) l1 := by rw [← hwd]; exact hT1.keepOwn (Touch.drewN (fun _ => False) wc nq) (fun _ _ x => x)
      have hMd : Moves tb l w3 l1 wd := by rw [← hwd]; exact hM1.trans ⟨Touch.drewN _ wc nq, fun _ h => .inl h⟩
      have hMw : Moves tb l w l1 wd := (Moves.below hb3).trans hMd
      rw [hwd]
      clear hwd e1 c9 y0 y1 y2 y3 hT1 hM1 hM hB1 hz' hT3
      refine wp_cut (fun a' w' => (sec (sec (sec (sec (Yba.f6.body.getD .skip))))).wp Yba.prog (calmPost (bodyPostM Fence.wide 3 Yba.prog Yba.f6 fun e w' => (∃ v, e = .returned v) ∧ ∃ T' l', TS w' base tb T' l' ∧ Moves tb l w l' w' ∧ Joined T T' k ex ⟨n, p, q⟩ cs)) a' w') ?rest ?first
      case rest =>
        intro a' w' hR
        exact ‹∀ (a : Act) (w : World), Code.wp Yba.prog _ _ a w → _› a' w' hR
      case first =>
        intro _ _ _ _
        rcases hso with hso | ⟨f, t, hso, hle⟩
        · rw [hso] at hd
          obtain ⟨rfl, rfl⟩ := Prod.mk.inj (Option.some.inj hd)
          obtain ⟨aS, cS, hvS⟩ := slice_form hTd.rS
          have c7 := hTd.c7
          have hsl : (T.offer k ⟨n, p, q⟩).st.length = T.st.length := rfl
          rw [hvS, hsl] at c7
          obtain ⟨y0, y1, y2, y3⟩ := (hBx.keep hlt htb hMd).cells
          clear hvS hsl
          go_wp2_with fail
          have hB0 : w3.heap.size ≤ wd.heap.size := hMd.touch.size
          have hBw : w.heap.size ≤ wd.heap.size := hMw.touch.size
          refine (wpIn_wide (n := 3)).1 ?_
          refine' wpIn_rangeFunc_ownF (n := 3) rfl (by omega) (gf := gf) (lb := lb) rfl trivial heg (hseq wd hMw.touch) (fun h k => h.trans k) (fun W l' o o' hl _ _ _ => (Touch.refl _ W).grown (grownBy_putObj' W l' o') (fun k e => by cases e; exact .inr (.inr (Nat.le_trans hBw hl)))) (Below.refl _ _) (fun _ => rfl)
            (fun pre W => ∃ l2, TS W base tb ((T.offer k ⟨n, p, q⟩).stand k (covs ex pre)) l2 ∧ Moves tb l w3 l2 W) (fun _ _ _ => False) (own_tree hB0 _) (fun _ _ _ _ _ hs _ _ => hs) ⟨l1, by simpa [covs, stand_nil] using hTd, hMd⟩ _ ?assign ?body ?done ?stop
          case assign =>
            intro l x W K hK
            gi_wp2
            exact hK
          case stop =>
            rintro D c pre W _ _ h _
            exact h.elim
          case body =>
            rintro l' pre x W ⟨l2, hT2, hM2⟩ hlen
            gi_wp2_with fail
            obtain ⟨v0, v1, -, -⟩ := (hBx.keep hlt htb hM2).cells
            have vl : W.cell? ⟨tb, 0, none⟩ = some (.int .i64 (T.lv : Int)) := hT2.c0
            have hpl : (covs ex pre).length ≤ N * 16 := Nat.le_trans (covs_len hex pre) (Nat.mul_le_mul_right _ (Nat.le_of_lt hlen))
            have h2e : 2 ^ ex ≤ 16 := Nat.le_trans (Nat.pow_le_pow_right (by omega) hex) (by decide)
            have hslen : ((T.offer k ⟨n, p, q⟩).stand k (covs ex pre)).st.length = T.st.length + (covs ex pre).length := by simp [Tree.stand, Tree.offer]
            have halen : ((T.offer k ⟨n, p, q⟩).stand k (covs ex pre)).sAt.length = T.st.length + (covs ex pre).length := by simp [Tree.stand, Tree.offer, hH.len]
            have hcov : Calls Yba.prog 20 #[.pointer (some ⟨tb, 0, none⟩), .int .i64 1, .int .i64 0, .int .i64 (T.lv : Int), .int .i64 x.1, .int .i64 x.2, .int .i64 k] W.drew fun e w' => (∃ v, e = .returned v) ∧
                ∃ l', TS w' base tb (((T.offer k ⟨n, p, q⟩).stand k (covs ex pre)).stand k (cov ex 1 0 x.1 x.2)) l' ∧ Moves tb l2 W.drew l' w' :=
              cover20 k x.1 x.2 ex W.drew _ l2 1 0 T.lv hT2.drew (by rw [hlv]; omega) hex (by rw [hlv]; omega) (by omega) (by rw [hslen]; omega) (by rw [halen]; omega)
            rw [stand_append, ← covs_snoc] at hcov
            have HC : Hid (Calls Yba.prog 20 #[.pointer (some ⟨tb, 0, none⟩), .int .i64 1, .int .i64 0, .int .i64 (T.lv : Int), .int .i64 x.1, .int .i64 x.2, .int .i64 k] W.drew fun e w' => (∃ v, e = .returned v) ∧
                ∃ l', TS w' base tb ((T.offer k ⟨n, p, q⟩).stand k (covs ex (pre ++ [x]))) l' ∧ Moves tb l2 W.drew l' w') := hcov
            have hkp : ∀ {l2 : Lay}, (∀ j, l2.owns j → l.owns j ∨ w3.heap.size ≤ j) → ∀ j, (l2.owns j ∨ j = tb) → l.owns j ∨ j = tb ∨ w.heap.size ≤ j := by
              rintro l2 hf j (e | e)
              · rcases hf j e with e | e
                · exact .inl e
                · exact .inr (.inr (Nat.le_trans hb3.size e))
              · exact .inr (.inl e)
            clear hcov hpl h2e hslen halen hlen hlv hex hhd hst hcs hseq heg hso
            refine region_round (by kernel_rfl) ?_ ?_
            · intro o ho c
              simp only [List.mem_toArray, List.mem_cons, List.not_mem_nil, or_false] at ho
              rcases ho with rfl | rfl | rfl | rfl | rfl | rfl | rfl | rfl | rfl <;> (intro h; cases h)
            · show wpAnyIn Fence.wide 1 Yba.prog .any _ _ 9 (Array.replicate 9 false) _ W.drew
              refine wpAnyIn_take (i := 5) (v := .int .i64 x.1) rfl rfl (by kernel_rfl) (by kernel_rfl) (by kernel_rfl) (fun _ _ _ h => h) ⟨Or.inl ⟨by rfl, fun w => by go_simp⟩, fun _ => rfl⟩ ?_
              refine wpAnyIn_take (i := 6) (v := .int .i64 x.2) rfl rfl (by kernel_rfl) (by kernel_rfl) (by kernel_rfl) (fun _ _ _ h => h) ⟨Or.inl ⟨by rfl, fun w => by go_simp⟩, fun _ => rfl⟩ ?_
              refine wpAnyIn_ready (rs := [0, 1, 7]) (by kernel_rfl) (by simp) ?_
              refine AllReadyIn.cons rfl (fun K hK => ?_) ?_
              · go_simp
                refine hK _ _ ?_
                clear hK K
                refine wpAnyIn_ready (rs := [1, 7]) (by kernel_rfl) (by simp) ?_
                refine AllReadyIn.cons rfl (fun K hK => ?_) ?_
                · go_simp
                  refine hK _ _ ?_
                  clear hK K
                  refine wpAnyIn_take (i := 2) (v := .pointer (some ⟨tb, 0, none⟩)) rfl rfl (by kernel_rfl) (by kernel_rfl) (by kernel_rfl) (fun _ _ _ h => h) ⟨Or.inl ⟨by rfl, fun w => by go_simp⟩, fun _ => rfl⟩ ?_
                  refine wpAnyIn_take (i := 3) (v := .pointer (some ⟨tb, 0, none⟩)) rfl rfl (by kernel_rfl) (by kernel_rfl) (by kernel_rfl) (fun _ _ _ h => h) ⟨Or.inl ⟨by rfl, fun w => by go_simp⟩, fun _ => rfl⟩ ?_
                  refine wpAnyIn_ready (rs := [4, 7]) (by kernel_rfl) (by simp) ?_
                  refine AllReadyIn.cons rfl (fun K hK => ?_) ?_
                  · go_simp
                    refine hK _ _ ?_
                    clear hK K
                    refine wpAnyIn_ready (rs := [7]) (by kernel_rfl) (by simp) ?_
                    refine AllReadyIn.cons rfl (fun K hK => ?_) ?_
                    · go_simp
                      refine hK _ _ ?_
                      clear hK K
                      refine wpAnyIn_ready (rs := [8]) (by kernel_rfl) (by simp) ?_
                      refine AllReadyIn.cons rfl (fun K hK => ?_) AllReadyIn.nil
                      go_simp
                      refine ⟨trivial, (callsIn_wide.2 HC.out).mono ?_⟩
                      rintro e W1 ⟨⟨u, rfl⟩, l3, hT3, hM3⟩
                      refine hK _ _ (wpAnyIn_done (by kernel_rfl) ?_ _)
                      have hMM : Moves tb l2 W l3 W1 := (Moves.drew _ _ _).trans hM3
                      exact ⟨hMM.others hT2, hMM.touch.mono (hkp hM2.fresh), l3, hT3, hM2.trans hMM⟩
                    exact AllReadyIn.nil
                  refine AllReadyIn.cons rfl (fun K hK => ?_) ?_
                  · go_simp
                    refine hK _ _ ?_
                    clear hK K
                    refine wpAnyIn_ready (rs := [4]) (by kernel_rfl) (by simp) ?_
                    refine AllReadyIn.cons rfl (fun K hK => ?_) ?_
                    · go_simp
                      refine hK _ _ ?_
                      clear hK K
                      refine wpAnyIn_ready (rs := [8]) (by kernel_rfl) (by simp) ?_
                      refine AllReadyIn.cons rfl (fun K hK => ?_) AllReadyIn.nil
                      go_simp
                      refine ⟨trivial, (callsIn_wide.2 HC.out).mono ?_⟩
                      rintro e W1 ⟨⟨u, rfl⟩, l3, hT3, hM3⟩
                      refine hK _ _ (wpAnyIn_done (by kernel_rfl) ?_ _)
                      have hMM : Moves tb l2 W l3 W1 := (Moves.drew _ _ _).trans hM3
                      exact ⟨hMM.others hT2, hMM.touch.mono (hkp hM2.fresh), l3, hT3, hM2.trans hMM⟩
                    exact AllReadyIn.nil
                  exact AllReadyIn.nil
                refine AllReadyIn.cons rfl (fun K hK => ?_) ?_
                · go_simp
                  refine hK _ _ ?_
                  clear hK K
                  refine wpAnyIn_ready (rs := [1]) (by kernel_rfl) (by simp) ?_
                  refine AllReadyIn.cons rfl (fun K hK => ?_) ?_
                  · go_simp
                    refine hK _ _ ?_
                    clear hK K
                    refine wpAnyIn_take (i := 2) (v := .pointer (some ⟨tb, 0, none⟩)) rfl rfl (by kernel_rfl) (by kernel_rfl) (by kernel_rfl) (fun _ _ _ h => h) ⟨Or.inl ⟨by rfl, fun w => by go_simp⟩, fun _ => rfl⟩ ?_
                    refine wpAnyIn_take (i := 3) (v := .pointer (some ⟨tb, 0, none⟩)) rfl rfl (by kernel_rfl) (by kernel_rfl) (by kernel_rfl) (fun _ _ _ h => h) ⟨Or.inl ⟨by rfl, fun w => by go_simp⟩, fun _ => rfl⟩ ?_
                    refine wpAnyIn_ready (rs := [4]) (by kernel_rfl) (by simp) ?_
                    refine AllReadyIn.cons rfl (fun K hK => ?_) ?_
                    · go_simp
                      refine hK _ _ ?_
                      clear hK K
                      refine wpAnyIn_ready (rs := [8]) (by kernel_rfl) (by simp) ?_
                      refine AllReadyIn.cons rfl (fun K hK => ?_) AllReadyIn.nil
                      go_simp
                      refine ⟨trivial, (callsIn_wide.2 HC.out).mono ?_⟩
                      rintro e W1 ⟨⟨u, rfl⟩, l3, hT3, hM3⟩
                      refine hK _ _ (wpAnyIn_done (by kernel_rfl) ?_ _)
                      have hMM : Moves tb l2 W l3 W1 := (Moves.drew _ _ _).trans hM3
                      exact ⟨hMM.others hT2, hMM.touch.mono (hkp hM2.fresh), l3, hT3, hM2.trans hMM⟩
                    exact AllReadyIn.nil
                  exact AllReadyIn.nil
                exact AllReadyIn.nil
              refine AllReadyIn.cons rfl (fun K hK => ?_) ?_
              · go_simp
                refine hK _ _ ?_
                clear hK K
                refine wpAnyIn_take (i := 2) (v := .pointer (some ⟨tb, 0, none⟩)) rfl rfl (by kernel_rfl) (by kernel_rfl) (by kernel_rfl) (fun _ _ _ h => h) ⟨Or.inl ⟨by rfl, fun w => by go_simp⟩, fun _ => rfl⟩ ?_
                refine wpAnyIn_take (i := 3) (v := .pointer (some ⟨tb, 0, none⟩)) rfl rfl (by kernel_rfl) (by kernel_rfl) (by kernel_rfl) (fun _ _ _ h => h) ⟨Or.inl ⟨by rfl, fun w => by go_simp⟩, fun _ => rfl⟩ ?_
                refine wpAnyIn_ready (rs := [0, 4, 7]) (by kernel_rfl) (by simp) ?_
                refine AllReadyIn.cons rfl (fun K hK => ?_) ?_
                · go_simp
                  refine hK _ _ ?_
                  clear hK K
                  refine wpAnyIn_ready (rs := [4, 7]) (by kernel_rfl) (by simp) ?_
                  refine AllReadyIn.cons rfl (fun K hK => ?_) ?_
                  · go_simp
                    refine hK _ _ ?_
                    clear hK K
                    refine wpAnyIn_ready (rs := [7]) (by kernel_rfl) (by simp) ?_
                    refine AllReadyIn.cons rfl (fun K hK => ?_) ?_
                    · go_simp
                      refine hK _ _ ?_
                      clear hK K
                      refine wpAnyIn_ready (rs := [8]) (by kernel_rfl) (by simp) ?_
                      refine AllReadyIn.cons rfl (fun K hK => ?_) AllReadyIn.nil
                      go_simp
                      refine ⟨trivial, (callsIn_wide.2 HC.out).mono ?_⟩
                      rintro e W1 ⟨⟨u, rfl⟩, l3, hT3, hM3⟩
                      refine hK _ _ (wpAnyIn_done (by kernel_rfl) ?_ _)
                      have hMM : Moves tb l2 W l3 W1 := (Moves.drew _ _ _).trans hM3
                      exact ⟨hMM.others hT2, hMM.touch.mono (hkp hM2.fresh), l3, hT3, hM2.trans hMM⟩
                    exact AllReadyIn.nil
                  refine AllReadyIn.cons rfl (fun K hK => ?_) ?_
                  · go_simp
                    refine hK _ _ ?_
                    clear hK K
                    refine wpAnyIn_ready (rs := [4]) (by kernel_rfl) (by simp) ?_
                    refine AllReadyIn.cons rfl (fun K hK => ?_) ?_
                    · go_simp
                      refine hK _ _ ?_
                      clear hK K
                      refine wpAnyIn_ready (rs := [8]) (by kernel_rfl) (by simp) ?_
                      refine AllReadyIn.cons rfl (fun K hK => ?_) AllReadyIn.nil
                      go_simp
                      refine ⟨trivial, (callsIn_wide.2 HC.out).mono ?_⟩
                      rintro e W1 ⟨⟨u, rfl⟩, l3, hT3, hM3⟩
                      refine hK _ _ (wpAnyIn_done (by kernel_rfl) ?_ _)
                      have hMM : Moves tb l2 W l3 W1 := (Moves.drew _ _ _).trans hM3
                      exact ⟨hMM.others hT2, hMM.touch.mono (hkp hM2.fresh), l3, hT3, hM2.trans hMM⟩
                    exact AllReadyIn.nil
                  exact AllReadyIn.nil
                refine AllReadyIn.cons rfl (fun K hK => ?_) ?_
                · go_simp
                  refine hK _ _ ?_
                  clear hK K
                  refine wpAnyIn_ready (rs := [0, 7]) (by kernel_rfl) (by simp) ?_
                  refine AllReadyIn.cons rfl (fun K hK => ?_) ?_
                  · go_simp
                    refine hK _ _ ?_
                    clear hK K
                    refine wpAnyIn_ready (rs := [7]) (by kernel_rfl) (by simp) ?_
                    refine AllReadyIn.cons rfl (fun K hK => ?_) ?_
                    · go_simp
                      refine hK _ _ ?_
                      clear hK K
                      refine wpAnyIn_ready (rs := [8]) (by kernel_rfl) (by simp) ?_
                      refine AllReadyIn.cons rfl (fun K hK => ?_) AllReadyIn.nil
                      go_simp
                      refine ⟨trivial, (callsIn_wide.2 HC.out).mono ?_⟩
                      rintro e W1 ⟨⟨u, rfl⟩, l3, hT3, hM3⟩
                      refine hK _ _ (wpAnyIn_done (by kernel_rfl) ?_ _)
                      have hMM : Moves tb l2 W l3 W1 := (Moves.drew _ _ _).trans hM3
                      exact ⟨hMM.others hT2, hMM.touch.mono (hkp hM2.fresh), l3, hT3, hM2.trans hMM⟩
                    exact AllReadyIn.nil
                  refine AllReadyIn.cons rfl (fun K hK => ?_) ?_
                  · go_simp
                    refine hK _ _ ?_
                    clear hK K
                    refine wpAnyIn_ready (rs := [0]) (by kernel_rfl) (by simp) ?_
                    refine AllReadyIn.cons rfl (fun K hK => ?_) ?_
                    · go_simp
                      refine hK _ _ ?_
                      clear hK K
                      refine wpAnyIn_ready (rs := [8]) (by kernel_rfl) (by simp) ?_
                      refine AllReadyIn.cons rfl (fun K hK => ?_) AllReadyIn.nil
                      go_simp
                      refine ⟨trivial, (callsIn_wide.2 HC.out).mono ?_⟩
                      rintro e W1 ⟨⟨u, rfl⟩, l3, hT3, hM3⟩
                      refine hK _ _ (wpAnyIn_done (by kernel_rfl) ?_ _)
                      have hMM : Moves tb l2 W l3 W1 := (Moves.drew _ _ _).trans hM3
                      exact ⟨hMM.others hT2, hMM.touch.mono (hkp hM2.fresh), l3, hT3, hM2.trans hMM⟩
                    exact AllReadyIn.nil
                  exact AllReadyIn.nil
                refine AllReadyIn.cons rfl (fun K hK => ?_) ?_
                · go_simp
                  refine hK _ _ ?_
                  clear hK K
                  refine wpAnyIn_ready (rs := [0, 4]) (by kernel_rfl) (by simp) ?_
                  refine AllReadyIn.cons rfl (fun K hK => ?_) ?_
                  · go_simp
                    refine hK _ _ ?_
                    clear hK K
                    refine wpAnyIn_ready (rs := [4]) (by kernel_rfl) (by simp) ?_
                    refine AllReadyIn.cons rfl (fun K hK => ?_) ?_
                    · go_simp
                      refine hK _ _ ?_
                      clear hK K
                      refine wpAnyIn_ready (rs := [8]) (by kernel_rfl) (by simp) ?_
                      refine AllReadyIn.cons rfl (fun K hK => ?_) AllReadyIn.nil
                      go_simp
                      refine ⟨trivial, (callsIn_wide.2 HC.out).mono ?_⟩
                      rintro e W1 ⟨⟨u, rfl⟩, l3, hT3, hM3⟩
                      refine hK _ _ (wpAnyIn_done (by kernel_rfl) ?_ _)
                      have hMM : Moves tb l2 W l3 W1 := (Moves.drew _ _ _).trans hM3
                      exact ⟨hMM.others hT2, hMM.touch.mono (hkp hM2.fresh), l3, hT3, hM2.trans hMM⟩
                    exact AllReadyIn.nil
                  refine AllReadyIn.cons rfl (fun K hK => ?_) ?_
                  · go_simp
                    refine hK _ _ ?_
                    clear hK K
                    refine wpAnyIn_ready (rs := [0]) (by kernel_rfl) (by simp) ?_
                    refine AllReadyIn.cons rfl (fun K hK => ?_) ?_
                    · go_simp
                      refine hK _ _ ?_
                      clear hK K
                      refine wpAnyIn_ready (rs := [8]) (by kernel_rfl) (by simp) ?_
                      refine AllReadyIn.cons rfl (fun K hK => ?_) AllReadyIn.nil
                      go_simp
                      refine ⟨trivial, (callsIn_wide.2 HC.out).mono ?_⟩
                      rintro e W1 ⟨⟨u, rfl⟩, l3, hT3, hM3⟩
                      refine hK _ _ (wpAnyIn_done (by kernel_rfl) ?_ _)
                      have hMM : Moves tb l2 W l3 W1 := (Moves.drew _ _ _).trans hM3
                      exact ⟨hMM.others hT2, hMM.touch.mono (hkp hM2.fresh), l3, hT3, hM2.trans hMM⟩
                    exact AllReadyIn.nil
                  exact AllReadyIn.nil
                exact AllReadyIn.nil
              refine AllReadyIn.cons rfl (fun K hK => ?_) ?_
              · go_simp
                refine hK _ _ ?_
                clear hK K
                refine wpAnyIn_ready (rs := [0, 1]) (by kernel_rfl) (by simp) ?_
                refine AllReadyIn.cons rfl (fun K hK => ?_) ?_
                · go_simp
                  refine hK _ _ ?_
                  clear hK K
                  refine wpAnyIn_ready (rs := [1]) (by kernel_rfl) (by simp) ?_
                  refine AllReadyIn.cons rfl (fun K hK => ?_) ?_
                  · go_simp
                    refine hK _ _ ?_
                    clear hK K
                    refine wpAnyIn_take (i := 2) (v := .pointer (some ⟨tb, 0, none⟩)) rfl rfl (by kernel_rfl) (by kernel_rfl) (by kernel_rfl) (fun _ _ _ h => h) ⟨Or.inl ⟨by rfl, fun w => by go_simp⟩, fun _ => rfl⟩ ?_
                    refine wpAnyIn_take (i := 3) (v := .pointer (some ⟨tb, 0, none⟩)) rfl rfl (by kernel_rfl) (by kernel_rfl) (by kernel_rfl) (fun _ _ _ h => h) ⟨Or.inl ⟨by rfl, fun w => by go_simp⟩, fun _ => rfl⟩ ?_
                    refine wpAnyIn_ready (rs := [4]) (by kernel_rfl) (by simp) ?_
                    refine AllReadyIn.cons rfl (fun K hK => ?_) ?_
                    · go_simp
                      refine hK _ _ ?_
                      clear hK K
                      refine wpAnyIn_ready (rs := [8]) (by kernel_rfl) (by simp) ?_
                      refine AllReadyIn.cons rfl (fun K hK => ?_) AllReadyIn.nil
                      go_simp
                      refine ⟨trivial, (callsIn_wide.2 HC.out).mono ?_⟩
                      rintro e W1 ⟨⟨u, rfl⟩, l3, hT3, hM3⟩
                      refine hK _ _ (wpAnyIn_done (by kernel_rfl) ?_ _)
                      have hMM : Moves tb l2 W l3 W1 := (Moves.drew _ _ _).trans hM3
                      exact ⟨hMM.others hT2, hMM.touch.mono (hkp hM2.fresh), l3, hT3, hM2.trans hMM⟩
                    exact AllReadyIn.nil
                  exact AllReadyIn.nil
                refine AllReadyIn.cons rfl (fun K hK => ?_) ?_
                · go_simp
                  refine hK _ _ ?_
                  clear hK K
                  refine wpAnyIn_take (i := 2) (v := .pointer (some ⟨tb, 0, none⟩)) rfl rfl (by kernel_rfl) (by kernel_rfl) (by kernel_rfl) (fun _ _ _ h => h) ⟨Or.inl ⟨by rfl, fun w => by go_simp⟩, fun _ => rfl⟩ ?_
                  refine wpAnyIn_take (i := 3) (v := .pointer (some ⟨tb, 0, none⟩)) rfl rfl (by kernel_rfl) (by kernel_rfl) (by kernel_rfl) (fun _ _ _ h => h) ⟨Or.inl ⟨by rfl, fun w => by go_simp⟩, fun _ => rfl⟩ ?_
                  refine wpAnyIn_ready (rs := [0, 4]) (by kernel_rfl) (by simp) ?_
                  refine AllReadyIn.cons rfl (fun K hK => ?_) ?_
                  · go_simp
                    refine hK _ _ ?_
                    clear hK K
                    refine wpAnyIn_ready (rs := [4]) (by kernel_rfl) (by simp) ?_
                    refine AllReadyIn.cons rfl (fun K hK => ?_) ?_
                    · go_simp
                      refine hK _ _ ?_
                      clear hK K
                      refine wpAnyIn_ready (rs := [8]) (by kernel_rfl) (by simp) ?_
                      refine AllReadyIn.cons rfl (fun K hK => ?_) AllReadyIn.nil
                      go_simp
                      refine ⟨trivial, (callsIn_wide.2 HC.out).mono ?_⟩
                      rintro e W1 ⟨⟨u, rfl⟩, l3, hT3, hM3⟩
                      refine hK _ _ (wpAnyIn_done (by kernel_rfl) ?_ _)
                      have hMM : Moves tb l2 W l3 W1 := (Moves.drew _ _ _).trans hM3
                      exact ⟨hMM.others hT2, hMM.touch.mono (hkp hM2.fresh), l3, hT3, hM2.trans hMM⟩
                    exact AllReadyIn.nil
                  refine AllReadyIn.cons rfl (fun K hK => ?_) ?_
                  · go_simp
                    refine hK _ _ ?_
                    clear hK K
                    refine wpAnyIn_ready (rs := [0]) (by kernel_rfl) (by simp) ?_
                    refine AllReadyIn.cons rfl (fun K hK => ?_) ?_
                    · go_simp
                      refine hK _ _ ?_
                      clear hK K
                      refine wpAnyIn_ready (rs := [8]) (by kernel_rfl) (by simp) ?_
                      refine AllReadyIn.cons rfl (fun K hK => ?_) AllReadyIn.nil
                      go_simp
                      refine ⟨trivial, (callsIn_wide.2 HC.out).mono ?_⟩
                      rintro e W1 ⟨⟨u, rfl⟩, l3, hT3, hM3⟩
                      refine hK _ _ (wpAnyIn_done (by kernel_rfl) ?_ _)
                      have hMM : Moves tb l2 W l3 W1 := (Moves.drew _ _ _).trans hM3
                      exact ⟨hMM.others hT2, hMM.touch.mono (hkp hM2.fresh), l3, hT3, hM2.trans hMM⟩
                    exact AllReadyIn.nil
                  exact AllReadyIn.nil
                exact AllReadyIn.nil
              exact AllReadyIn.nil
          case done =>
            rintro D xs W hD rfl ⟨l2, hT2, hM2⟩ hK
            have hDw : w3.heap.size ≤ D := Nat.le_trans hB0 hD
            obtain ⟨sb2, cso2, hvS2, -⟩ := hT2.rSO.form (show 0 < T.so.length by omega)
            have hgS : l2.vSO.ownBlock = some sb2 := by rw [hvS2]; rfl
            obtain ⟨aS2, cS2, hvS3⟩ := slice_form hT2.rS
            have c9 : W.cell? ⟨tb, 9, none⟩ = some (.slice (some ⟨sb2, 0, none⟩) T.so.length cso2) := by rw [hT2.c9, hvS2]; rfl
            have hln : ((T.offer k ⟨n, p, q⟩).stand k (covs ex xs)).st.length = T.st.length + (covs ex xs).length := by simp [Tree.stand, Tree.offer]
            obtain ⟨m, hm⟩ : ∃ m, T.st.length + (covs ex xs).length = m := ⟨_, rfl⟩
            have c7 : W.cell? ⟨tb, 7, none⟩ = some (.slice aS2 m cS2) := by rw [hT2.c7, hvS3, hln, hm]
            obtain ⟨y0, y1, y2, y3⟩ := (hBx.keep hlt htb hM2).cells
            obtain ⟨q1, q2⟩ := pairs_get T.so k _ hso
            have d1 : W.cell? ⟨sb2, k * 2, none⟩ = some (.int .i64 (-1)) := own_cell hT2.rSO hgS q1
            have d2 : W.cell? ⟨sb2, k * 2 + 1, none⟩ = some (.int .i64 (-1)) := own_cell hT2.rSO hgS q2
            have f1 := own_frozen hT2.rSO hgS (k * 2)
            have f2 := own_frozen hT2.rSO hgS (k * 2 + 1)
            clear q1 q2 hvS2 hvS3 hln
            go_upto_region 9 with fail
            go_region
            obtain ⟨We, hWe⟩ : ∃ We, ((W.setCell ⟨sb2, k * 2, none⟩ (.int .i64 (T.st.length : Int))).setCell ⟨sb2, k * 2 + 1, none⟩ (.int .i64 (m : Int))).drew = We := ⟨_, rfl⟩
            have hTs : TS We base tb { (T.offer k ⟨n, p, q⟩).stand k (covs ex xs) with so := T.so.set k ((T.st.length : Int), (m : Int)) } l2 := by rw [← hWe]; exact (hT2.setSO hgS k ((T.st.length : Int), (m : Int))).drew
            have hMs : Moves tb l2 W l2 We := by rw [← hWe]; exact (moves_SO hgS _ _ _ _).trans (Moves.drew _ _ _)
            have hMS := hM2.trans hMs
            have hDe : We.heap[D]? = some (.deferred (some [])) := (hMs.others hT2).same D _ hK rfl
            have hHs : HW { (T.offer k ⟨n, p, q⟩).stand k (covs ex xs) with so := T.so.set k ((T.st.length : Int), (m : Int)) } := by
              have h0 := hHo.standing (k := k) (ns := covs ex xs) (by simpa [Tree.offer] using hk) (by
                intro y hy
                obtain ⟨c, _, hc⟩ := List.mem_flatMap.1 hy
                have := cov_lt ex 1 0 c.1 c.2 y hc
                show y < T.hd.length
                omega)
              exact ⟨h0.len, h0.wf, h0.nodes, h0.mem, h0.place⟩
            have hcl := covs_len hex xs
            have hcl2 : xs.length * 16 ≤ N * 16 := Nat.mul_le_mul_right _ hcs
            rw [hWe]
            go_wp2_with fail
            refine Met.intro ?_
            go_step
            refine join_loop k T.st.length m w.heap.size p q w3 We hBx hlt htb hTs hMS hHs (List.getElem?_set_self hks) (by simp [Tree.stand, Tree.offer, hm]) (by simp only [Tree.stand, Tree.offer, List.length_append, List.length_map]; omega) [{ target := .collected D, args := #[] }] _ ?_ _ _ _ _ _ _ _ _ _ _ _ _ _ _ _ _ _ _ _ _ _ _ _ _ _ _ _ _ _ _ _ _ _ _ _ _ _ _ _ _ _ _ _ _ _ _ _ _ _ _ _ _ _ _ _ _ _ _ _ _ _ _ _ _ _ _ _ _ _ _ _ _ _ _ _ _ _ _ _ _ _ _ _ _ _ _ _ _ _ _ _ _ _ _ _ _ _ _ _ _ _ _ _ _ _ _ _ _ _ _ _ _ _ _ _ _ _ _ _ _ _ _ _ _ _ _ _ _ _ _ _ _ _ _ _ _ _ _ _ _ _ _ _
            intro tmps w' T' l' hT' hM' hK' hH' hA' hall
            have hDf : w'.heap[D]? = some (.deferred (some [])) := hK'.same D _ hDe rfl
            obtain ⟨lf, hTf, hMf⟩ := (own_tree (base := base) (tb := tb) (l := l) (Nat.le_refl w3.heap.size) (fun _ : Unit => T')).putObj (s := ()) (.deferred none) ⟨l', hT', hM'⟩ hDw hDf rfl
            have hzz : T'.oAt[n]? = some 0 := by rw [hA'.oAt]; exact hz
            refine ⟨by simp, .inl ⟨_, _, rfl, run_takeDeferred hDf, ?_⟩⟩
            exact ⟨_, results_none rfl _ _ _, ⟨_, rfl⟩, T', lf, hTf, (Moves.below hb3).trans hMf, hA'.lv, hA'.off, hA'.oAt, hH', hA'.hl, by rw [hA'.so]; simp, fun e => absurd hzz e, fun _ => ⟨_, T.st.length, m, .inr ⟨hso, by rw [hm]⟩, hA', List.getElem?_set_self hks, by simp [Tree.stand, Tree.offer, hm], hall⟩⟩
        · rw [hso] at hd
          obtain ⟨rfl, rfl⟩ := Prod.mk.inj (Option.some.inj hd)
          have hf : ¬ ((f : Int) < 0) := by omega
          go_wp2_with fail
          refine Met.intro ?_
          go_step
          refine join_loop k f t w.heap.size p q w3 wd hBx hlt htb hTd hMd hHo hso hle (by show T.st.length ≤ 80000; omega) [] _ ?_ _ _ _ _ _ _ _ _ _ _ _ _ _ _ _ _ _ _ _ _ _ _ _ _ _ _ _ _ _ _ _ _ _ _ _ _ _ _ _ _ _ _ _ _ _ _ _ _ _ _ _ _ _ _ _ _ _ _ _ _ _ _ _ _ _ _ _ _ _ _ _ _ _ _ _ _ _ _ _ _ _ _ _ _ _ _ _ _ _ _ _ _ _ _ _ _ _ _ _ _ _ _ _ _ _ _ _ _ _ _ _ _ _ _ _ _ _ _ _ _ _ _ _ _ _ _ _ _ _ _ _ _ _ _ _ _ _ _ _ _ _ _ _
          intro tmps w' T' l' hT' hM' hK' hH' hA' hall
          have hzz : T'.oAt[n]? = some 0 := by rw [hA'.oAt]; exact hz
          exact ⟨_, results_none rfl _ _ _, ⟨_, rfl⟩, T', l', hT', (Moves.below hb3).trans hM', hA'.lv, hA'.off, hA'.oAt, hH', hA'.hl, by rw [hA'.so]; rfl, fun e => absurd hzz e, fun _ => ⟨_, f, t, .inl ⟨rfl, f, t, hso⟩, hA', hso, hle, hall⟩⟩
    · have hz' : (z != 0) = true := by simp [hz0]
      go_wp2
      exact ⟨_, results_none rfl _ _ _, ⟨_, rfl⟩, _, _, hT1, hM, rfl, rfl, rfl, hHo, rfl, rfl, fun _ => ⟨rfl, rfl, rfl⟩, fun e => absurd (Option.some.inj ((show ((oq T k).hpush ⟨n, p, q⟩).at_[n]? = some 0 from e).symm.trans hz)) (Ne.symm hz0)⟩
end
end Go.Proofs.Ybulkcmtm
