/- zzs4432cbetter, zzs4432ccheck. -/
import Derived.Test.YbulkcmtmModel
import Derived.Laws.StructEq
namespace Go.Proofs.Ybulkcmtm
open Go.RowKit

set_option maxHeartbeats 800000 in
theorem better25 (p1 q1 p2 q2 : Int) (w : World) :
    Calls Yba.prog 25 #[.agg #[.int .i64 p1, .int .i64 q1], .agg #[.int .i64 p2, .int .i64 q2]] w fun e w' => e = .returned (.bool (lower p2 q2 p1 q1)) ∧ Below w.heap.size w w' := by
  have hb : Below w.heap.size w ((w.alloc (.cells #[.int .i64 p1, .int .i64 q1] 28)).alloc (.cells #[.int .i64 p2, .int .i64 q2] 28)) := ((Below.refl _ w).alloc (Nat.le_refl _) _).alloc (by simp) _
  by_cases h1 : p2 < p1
  · go_enter Yba.func25, Yba.ntmps25
    go_wp2
    go_ret
    exact ⟨by simp [lower, h1], hb⟩
  · by_cases h2 : p1 = p2
    · subst h2
      by_cases h3 : q1 < q2
      · go_enter Yba.func25, Yba.ntmps25
        go_wp2
        go_ret
        exact ⟨by simp [lower, h3], hb⟩
      · go_enter Yba.func25, Yba.ntmps25
        go_wp2
        go_ret
        exact ⟨by simp [lower, h3], hb⟩
    · go_enter Yba.func25, Yba.ntmps25
      go_wp2
      go_ret
      exact ⟨by simp [lower, h1, Ne.symm h2], hb⟩

theorem neq28 (a b : Int) (w : World) : (binOp .neq 28 (.agg #[.int .i64 a, .int .i64 b]) (.agg #[.int .i64 a, .int .i64 b])).run Yba.prog w = .ok (.bool false) w := by
  have u3 := Yba.underlying3
  have a3 := Yba.isAgg3
  have z3 := Yba.sizeOf3
  have hS : Yba.prog.underlying 28 = some (.struct (Yba.prog.fieldsOf 28)) := by kernel_rfl
  have hp : Yba.prog.stoodInHeld 28 = false := by kernel_rfl
  rw [run_neq_struct, show (10000 : Nat) = 9999 + 1 from rfl, run_equalIn_agg w 9999 28 _ _ hS hp]
  simp only [Program.fieldsOf, Yba.underlying28]
  go_simp

theorem guard28 : Yba.prog.eqGuardType Yba.prog.depth 28 = false := by kernel_rfl

/-- The law's own two arrays. -/
structure Arr (w : World) (ib rb : Nat) (inn : Nat → Bool) (rk : Nat → Int × Int) : Prop where
  i : ∀ n, n < 8 → w.cell? ⟨ib, n, none⟩ = some (.bool (inn n))
  p : ∀ n, n < 8 → w.cell? ⟨rb, n * 2, none⟩ = some (.int .i64 (rk n).1)
  q : ∀ n, n < 8 → w.cell? ⟨rb, n * 2 + 1, none⟩ = some (.int .i64 (rk n).2)

theorem Arr.below {w w' : World} {ib rb : Nat} {inn : Nat → Bool} {rk : Nat → Int × Int} (h : Arr w ib rb inn rk) (hb : Below w.heap.size w w') : Arr w' ib rb inn rk :=
  ⟨fun n hn => cell_below hb (h.i n hn), fun n hn => cell_below hb (h.p n hn), fun n hn => cell_below hb (h.q n hn)⟩

theorem keep4 {w W W' : World} {a1 a2 a3 a4 : Addr} {v1 v2 v3 v4 : Value} (h : Below w.heap.size w W ∧ W.cell? a1 = some v1 ∧ W.cell? a2 = some v2 ∧ W.cell? a3 = some v3 ∧ W.cell? a4 = some v4) (hb : Below W.heap.size W W') :
    Below w.heap.size w W' ∧ W'.cell? a1 = some v1 ∧ W'.cell? a2 = some v2 ∧ W'.cell? a3 = some v3 ∧ W'.cell? a4 = some v4 :=
  ⟨h.1.trans (hb.mono h.1.size), cell_below hb h.2.1, cell_below hb h.2.2.1, cell_below hb h.2.2.2.1, cell_below hb h.2.2.2.2⟩

section
variable {base tb : Nat} {T : Tree} {l : Lay}

set_option maxHeartbeats 4000000 in
set_option maxRecDepth 100000 in
theorem check14 (w : World) (h : TS w base tb T l) (ib rb : Nat) (inn : Nat → Bool) (rk : Nat → Int × Int) (hA : Arr w ib rb inn rk) (hC : CI T inn rk) :
    Calls Yba.prog 14 #[.pointer (some ⟨tb, 0, none⟩), .pointer (some ⟨ib, 0, none⟩), .pointer (some ⟨rb, 0, none⟩)] w fun e w' => e = .returned (.bool true) ∧ Below w.heap.size w w' := by
  have hnot : ∀ (x : Bool) (w : World), (Op.unary .not (.bool x)).run Yba.prog w = .ok (.bool (!x)) w := fun _ _ => rfl
  have hol := hC.ol
  have hal := hC.al
  obtain ⟨qb, cq, hvO⟩ := h.offs.block (by omega)
  have hq : l.vO.ownBlock = some qb := by rw [hvO]; rfl
  obtain ⟨ab, ca, hvA, -⟩ := h.rA.form (by omega)
  have c4 : w.cell? ⟨tb, 4, none⟩ = some (.slice (some ⟨qb, 0, none⟩) 3 cq) := by rw [h.c4, hvO, hol]
  have c5 : w.cell? ⟨tb, 5, none⟩ = some (.slice (some ⟨ab, 0, none⟩) 8 ca) := by rw [h.c5, hvA, hal]
  have hgA : l.vA.ownBlock = some ab := by rw [hvA]; rfl
  have HT : Hid (TS w base tb T l) := h
  have HC : Hid (CI T inn rk) := hC
  have HAr : Hid (Arr w ib rb inn rk) := hA
  have HO : Hid (T.off.length = 3) := hol
  have HAl : Hid (T.oAt.length = 8) := hal
  clear h hC hA hvO hvA hol hal
  go_enter Yba.func14, Yba.ntmps14
  go_wp2_with fail
  go_loopg [7] 4 (fun gh v wr => ∃ k : Nat, v = .int .i64 k ∧ k ≤ 3 ∧ Below w.heap.size w wr ∧ 4 - k ≤ gh)
  case atStart => exact ⟨0, rfl, by omega, Below.refl _ _, Nat.le_refl _⟩
  case round =>
    obtain ⟨k, rfl, hk, hb, hgh⟩ := hrel
    by_cases hk3 : k < 3
    · have t1 : (k : Int) < 3 := by omega
      have i0 : (0 : Int) ≤ (k : Int) := by omega
      have d4 := cell_below hb c4
      have d0 := (HT.out.offs.queue hq (by rw [HO.out]; exact hk3) HT.out.c5 HT.out.rA HT.out.tt)
      obtain ⟨aI, cI, hvI⟩ := slice_form d0.own
      have d1 := cell_below hb d0.it
      obtain ⟨L, hL⟩ : ∃ L, (T.off.getD k []).length = L := ⟨_, rfl⟩
      have hL' : (Qu.mk (T.off.getD k []) T.oAt).it.length = L := hL
      rw [hvI, hL'] at d1
      have HQ : Hid (QS w base qb (k * 2) tb 5 (.slice aI L cI) l.vA ⟨T.off.getD k [], T.oAt⟩) := by rw [hvI, hL'] at d0; exact d0
      have HL : Hid ((T.off.getD k []).length = L) := hL
      have Hgh : Hid (4 - (k + 1) < _) := Nat.lt_of_lt_of_le (show 4 - (k + 1) < 4 - k by omega) hgh
      clear d0 hvI hL hL'
      go_wp2_with fail
      go_loopg [9, 10] 9 (fun gh c v wx => ∃ j : Nat, v = .int .i64 j ∧ c = .int .i64 (cnt inn k j : Nat) ∧ j ≤ 8 ∧ Below w.heap.size w wx ∧ 9 - j ≤ gh)
      case atStart => exact ⟨0, rfl, rfl, by omega, hb, Nat.le_refl _⟩
      case round =>
        obtain ⟨j, rfl, rfl, hj, hbj, hgj⟩ := hrel
        clear d4 d1
        by_cases hj8 : j < 8
        · have t2 : (j : Int) < 8 := by omega
          have j0 : (0 : Int) ≤ (j : Int) := by omega
          have ci := cell_below hbj (HAr.out.i j hj8)
          have hcs := cnt_succ inn k j
          have hcl : cnt inn k j ≤ j := by
            have := List.length_filter_le (fun n => inn n && n % 3 == k) (List.range j)
            simpa [cnt] using this
          obtain ⟨c, hc⟩ : ∃ c, cnt inn k j = c := ⟨_, rfl⟩
          rw [hc] at hcs hcl ⊢
          have hwr : IntKind.i64.wrap ((c : Int) + 1) = (c : Int) + 1 := by rw [IntKind.wrap_i64]; omega
          have hms : Hid (9 - (j + 1) < 9 - j ∧ 9 - j ≤ _) := ⟨by omega, hgj⟩
          cases hin : inn j with
          | false =>
            have HS : Hid (cnt inn k (j + 1) = c) := (by rw [hcs, hin]; simp : cnt inn k (j + 1) = c)
            rw [hin] at ci
            clear hcs hc hcl hgj
            go_wp2
            go_roundg (9 - (j + 1))
            case measure => exact Nat.lt_of_lt_of_le hms.out.1 hms.out.2
            case rel => exact ⟨j + 1, rfl, by rw [HS.out], by omega, hbj, Nat.le_refl _⟩
          | true =>
            rw [hin] at ci
            obtain ⟨m, hm⟩ : ∃ m, j % 3 = m := ⟨_, rfl⟩
            have ht : (j : Int).tmod 3 = (m : Int) := by rw [Int.tmod_eq_emod_of_nonneg (by omega)]; omega
            by_cases e : m = k
            · subst e
              have HS : Hid (cnt inn m (j + 1) = c + 1) := (by rw [hcs, hin, hm]; simp : cnt inn m (j + 1) = c + 1)
              clear hcs hc hcl hgj hm
              go_wp2
              go_roundg (9 - (j + 1))
              case measure => exact Nat.lt_of_lt_of_le hms.out.1 hms.out.2
              case rel => exact ⟨j + 1, rfl, by rw [HS.out]; rfl, by omega, hbj, Nat.le_refl _⟩
            · have HS : Hid (cnt inn k (j + 1) = c) := (by rw [hcs, hin, hm]; simp [e] : cnt inn k (j + 1) = c)
              have e2 : ¬ ((m : Int) = (k : Int)) := by omega
              clear hcs hc hcl hgj hm
              go_wp2
              go_roundg (9 - (j + 1))
              case measure => exact Nat.lt_of_lt_of_le hms.out.1 hms.out.2
              case rel => exact ⟨j + 1, rfl, by rw [HS.out], by omega, hbj, Nat.le_refl _⟩
        · obtain rfl : j = 8 := by omega
          have hc : cnt inn k 8 = L := by rw [← HC.out.count hk3, HL.out]
          rw [hc]
          clear hgj hj hc hj8 hgh
          have t2 : ¬ ((8 : Int) < 8) := by omega
          go_wp2_with fail
          go_loopg [49] (L + 1) (fun gh v wx => ∃ i : Nat, v = .int .i64 i ∧ i ≤ L ∧ Below w.heap.size w wx ∧ L + 1 - i ≤ gh)
          case atStart => exact ⟨0, rfl, by omega, hbj, Nat.le_refl _⟩
          case round =>
            clear t2
            obtain ⟨i, rfl, hi, hbi, hgi⟩ := hrel
            by_cases hiL : i < L
            · have u1 : (i : Int) < (L : Int) := by omega
              have u0 : (0 : Int) ≤ (i : Int) := by omega
              have hil : i < (T.off.getD k []).length := by rw [HL.out]; exact hiL
              obtain ⟨gI, cI', hgI, -⟩ := HQ.out.own.form (Nat.lt_of_le_of_lt (Nat.zero_le i) hil)
              obtain rfl : aI = some ⟨gI, 0, none⟩ := (Value.slice.inj hgI).1
              obtain ⟨m1, m2, m3⟩ := HQ.out.item (g := gI) rfl hil
              obtain ⟨a1, a2, a3, a4⟩ := HC.out.mem k hk3 _ (Qu.g_mem (oq T k) hil)
              have a5 := (HC.out.wf k hk3 i hil).2
              have n1 := cell_below hbi m1
              have n2 := cell_below hbi m2
              have n3 := cell_below hbi m3
              have hpar : 0 < i → ∃ pp pq : Int, lower pp pq ((oq T k).g i).p ((oq T k).g i).q = false ∧ wr.cell? ⟨gI, (i - 1) / 2 * 3 + 1, none⟩ = some (.int .i64 pp) ∧ wr.cell? ⟨gI, (i - 1) / 2 * 3 + 2, none⟩ = some (.int .i64 pq) := by
                intro h0
                have h1 := HC.out.ord k hk3 i h0 hil
                obtain ⟨_, b2, b3⟩ := HQ.out.item (g := gI) (i := (i - 1) / 2) rfl (show (i - 1) / 2 < (T.off.getD k []).length by omega)
                exact ⟨_, _, h1, cell_below hbi b2, cell_below hbi b3⟩
              obtain ⟨yn, hyn⟩ : ∃ yn, ((oq T k).g i).n = yn := ⟨_, rfl⟩
              obtain ⟨yp, hyp⟩ : ∃ yp, ((oq T k).g i).p = yp := ⟨_, rfl⟩
              obtain ⟨yq, hyq⟩ : ∃ yq, ((oq T k).g i).q = yq := ⟨_, rfl⟩
              change wr.cell? _ = some (.int .i64 (((oq T k).g i).n : Int)) at n1
              change wr.cell? _ = some (.int .i64 ((oq T k).g i).p) at n2
              change wr.cell? _ = some (.int .i64 ((oq T k).g i).q) at n3
              rw [hyn] at n1 a1 a2 a3 a4 a5
              rw [hyp] at n2 a4 hpar
              rw [hyq] at n3 a4 hpar
              have b1 := cell_below hbi (HAr.out.i yn a1)
              have b2 := cell_below hbi (HAr.out.p yn a1)
              have b3 := cell_below hbi (HAr.out.q yn a1)
              rw [← a4] at b2 b3
              rw [a3] at b1
              have b4 := cell_below hbi c5
              have b5 : wr.cell? ⟨ab, yn, none⟩ = some (.int .i64 (i : Int)) := cell_below hbi (own_cell HT.out.rA hgA (by simp [ints]; exact a5))
              have e1 : (yn : Int).tmod 3 = (k : Int) := by rw [Int.tmod_eq_emod_of_nonneg (by omega)]; omega
              have v0 : ¬ ((yn : Int) < 0) := by omega
              have v1 : ¬ ((8 : Int) ≤ (yn : Int)) := by omega
              have v2 : (0 : Int) ≤ (yn : Int) := by omega
              have v3 : (yn : Int) < 8 := by omega
              have HM : Hid (L + 1 - (i + 1) < L + 1 - i ∧ L + 1 - i ≤ _ ∧ yn % 3 = k) := ⟨by omega, hgi, a2⟩
              have HP : Hid (0 < i → ∃ pp pq : Int, lower pp pq yp yq = false ∧ wr.cell? ⟨gI, (i - 1) / 2 * 3 + 1, none⟩ = some (.int .i64 pp) ∧ wr.cell? ⟨gI, (i - 1) / 2 * 3 + 2, none⟩ = some (.int .i64 pq)) := hpar
              clear m1 m2 m3 a1 a2 a3 a4 a5 hyn hyp hyq hpar hgi hgI
              go_upto_region 16 with fail
              obtain ⟨We, hWe⟩ : ∃ We, wr.alloc (.cells #[.int .i64 (yn : Int), .int .i64 yp, .int .i64 yq] 72) = We := ⟨_, rfl⟩
              rw [hWe]
              have hbe : Below wr.heap.size wr We := by rw [← hWe]; exact (Below.refl _ _).alloc (Nat.le_refl _) _
              have r0 : We.cell? ⟨wr.heap.size, 0, none⟩ = some (.int .i64 (yn : Int)) := by rw [← hWe]; simp
              have r1 : We.cell? ⟨wr.heap.size, 1, none⟩ = some (.int .i64 yp) := by rw [← hWe]; simp
              have r2 : We.cell? ⟨wr.heap.size, 2, none⟩ = some (.int .i64 yq) := by rw [← hWe]; simp
              have hbw : Below w.heap.size w We := hbi.trans (hbe.mono hbi.size)
              have s1 := cell_below hbe b1
              have s2 := cell_below hbe b2
              have s3 := cell_below hbe b3
              have s4 := cell_below hbe b4
              have s5 := cell_below hbe b5
              have hn28 := neq28
              have hg28 := guard28
              clear n1 n2 n3 b1 b2 b3 b4 b5 hWe
              go_quiet (fail)
              generalize hWq : World.drewN We _ = Wq
              have hbq : Below wr.heap.size wr Wq := by rw [← hWq]; exact ⟨hbe.os, hbe.tape, hbe.output, hbe.size, hbe.block⟩
              have hbwq : Below w.heap.size w Wq := hbi.trans (hbq.mono hbi.size)
              have q1 : Wq.cell? ⟨wr.heap.size, 1, none⟩ = some (.int .i64 yp) := by rw [← hWq]; exact r1
              have q2 : Wq.cell? ⟨wr.heap.size, 2, none⟩ = some (.int .i64 yq) := by rw [← hWq]; exact r2
              clear r0 r1 r2 s1 s2 s3 s4 s5 hn28 hg28 hbe hbw hWq e1 v0 v1 v2 v3 hnot
              have hwr : IntKind.i64.wrap ((i : Int) + 1) = (i : Int) + 1 := by
                have h8 : L ≤ 8 := by
                  have := Qu.WF.len (HC.out.wf k hk3)
                  simp only [oq] at this
                  rw [HL.out, HAl.out] at this
                  exact this
                rw [IntKind.wrap_i64]; omega
              by_cases hi0 : i = 0
              · subst hi0
                go_upto_region 18 with fail
                go_quiet (fail)
                go_wp2
                go_roundg (L + 1 - (0 + 1))
                case measure => exact Nat.lt_of_lt_of_le HM.out.1 HM.out.2.1
                case rel => exact ⟨1, rfl, by omega, ⟨hbwq.os, hbwq.tape, hbwq.output, hbwq.size, hbwq.block⟩, by omega⟩
              · obtain ⟨pp, pq, hlow, z1, z2⟩ := HP.out (by omega)
                have z1 := cell_below hbq z1
                have z2 := cell_below hbq z2
                obtain ⟨m, hm⟩ : ∃ m, (i - 1) / 2 = m := ⟨_, rfl⟩
                rw [hm] at z1 z2
                have hd : ((i : Int) - 1).tdiv 2 = (m : Int) := by rw [Int.tdiv_eq_ediv_of_nonneg (by omega)]; omega
                have w0 : (0 : Int) < (i : Int) := by omega
                have w0n : 0 < i := by omega
                have w0d : decide ((0 : Int) < (i : Int)) = true := by simp [w0n]
                have w1 : (0 : Int) ≤ (m : Int) := by omega
                have w2 : (m : Int) < (L : Int) := by omega
                have hw2 : IntKind.i64.wrap ((i : Int) - 1) = (i : Int) - 1 := by
                  have := hwr
                  rw [IntKind.wrap_i64] at this ⊢
                  omega
                have hwm : IntKind.i64.wrap (m : Int) = (m : Int) := by
                  have := hwr
                  rw [IntKind.wrap_i64] at this ⊢
                  omega
                have HLW : Hid (lower pp pq yp yq = false) := hlow
                clear hm hlow
                go_upto_region 18 with fail
                go_region_held3 (fun W => Below Wq.heap.size Wq W ∧ W.cell? ⟨gI, m * 3 + 1, none⟩ = some (.int .i64 pp) ∧ W.cell? ⟨gI, m * 3 + 2, none⟩ = some (.int .i64 pq) ∧ W.cell? ⟨wr.heap.size, 1, none⟩ = some (.int .i64 yp) ∧ W.cell? ⟨wr.heap.size, 2, none⟩ = some (.int .i64 yq))
                  (first | exact ⟨(Below.refl _ _).drew, z1, z2, q1, q2⟩ | exact keep4 (by assumption) hb') ((go_at_call 25; refine (better25 _ _ _ _ _).mono ?_; rintro e W' ⟨rfl, hb'⟩; rw [HLW.out]))
                go_wp2
                have hbz : Below w.heap.size w W' := hbwq.trans ((((Below.refl _ Wq).drew).trans hb').mono hbwq.size)
                go_roundg (L + 1 - (i + 1))
                case measure => exact Nat.lt_of_lt_of_le HM.out.1 HM.out.2.1
                case rel => exact ⟨i + 1, rfl, by omega, hbz, Nat.le_refl _⟩
            · have u1 : ¬ ((i : Int) < (L : Int)) := by omega
              go_wp2
              go_roundg (4 - (k + 1))
              case measure => exact Hgh.out
              case rel => exact ⟨k + 1, rfl, by omega, hbi, Nat.le_refl _⟩
    · have t1 : ¬ ((k : Int) < 3) := by omega
      clear hgh
      go_wp2_with fail
      go_loopg [13] 9 (fun gh v wx => ∃ j : Nat, v = .int .i64 j ∧ j ≤ 8 ∧ Below w.heap.size w wx ∧ 9 - j ≤ gh)
      case atStart => exact ⟨0, rfl, by omega, hb, Nat.le_refl _⟩
      case round =>
        clear t1
        obtain ⟨j, rfl, hj, hbj, hgj⟩ := hrel
        by_cases hj8 : j < 8
        · have t2 : (j : Int) < 8 := by omega
          have j0 : (0 : Int) ≤ (j : Int) := by omega
          have ci := cell_below hbj (HAr.out.i j hj8)
          have hms : Hid (9 - (j + 1) < 9 - j ∧ 9 - j ≤ _) := ⟨by omega, hgj⟩
          clear hgj
          cases hin : inn j with
          | true =>
            rw [hin] at ci
            go_wp2
            go_roundg (9 - (j + 1))
            case measure => exact Nat.lt_of_lt_of_le hms.out.1 hms.out.2
            case rel => exact ⟨j + 1, rfl, by omega, hbj, Nat.le_refl _⟩
          | false =>
            rw [hin] at ci
            have b4 := cell_below hbj c5
            have b5 : wr.cell? ⟨ab, j, none⟩ = some (.int .i64 (-1)) := cell_below hbj (own_cell HT.out.rA hgA (by simp [ints, HC.out.out j hj8 hin]))
            go_wp2
            go_roundg (9 - (j + 1))
            case measure => exact Nat.lt_of_lt_of_le hms.out.1 hms.out.2
            case rel => exact ⟨j + 1, rfl, by omega, hbj, Nat.le_refl _⟩
        · have t2 : ¬ ((j : Int) < 8) := by omega
          go_wp2
          go_ret
          exact ⟨rfl, hbj⟩
end
end Go.Proofs.Ybulkcmtm
