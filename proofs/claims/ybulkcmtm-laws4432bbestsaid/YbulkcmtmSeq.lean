/- The iterator of zzs4432bcover. -/
import Derived.Test.YbulkcmtmKeep
import Derived.Test.YbulkcmtmRound
import Derived.RangeFuncKeeps
import Derived.RangeFuncCalls
import Derived.OwnWalkIn
import Derived.TacticsInMore
import Derived.LoopNIn
import Derived.LoopIn
import Derived.BigRegionIn
namespace Go.Proofs.Ybulkcmtm
open Go.RowKit
attribute [local go_sem] Oper.semAt_some

set_option maxRecDepth 100000 in
theorem cover7 (sa : Option Addr) (n cap o l k : Nat) (w : World) :
    Calls Yba.prog 7 #[.slice sa n cap, .int .i64 o, .int .i64 l, .int .i64 k] w fun e w' =>
      e = .returned (.func (.func 23) #[] #[.pointer (some ⟨w.heap.size, 0, none⟩), .pointer (some ⟨w.heap.size + 1, 0, none⟩), .pointer (some ⟨w.heap.size + 3, 0, none⟩), .pointer (some ⟨w.heap.size + 2, 0, none⟩)]) ∧
      w' = (((w.alloc (.cells #[.slice sa n cap] 22)).alloc (.cells #[.int .i64 o] 3)).alloc (.cells #[.int .i64 l] 3)).alloc (.cells #[.int .i64 k] 3) := by
  go_enter Yba.func7, Yba.ntmps7
  go_wp2
  go_ret
  exact ⟨rfl, rfl⟩

def csOf (n : Nat) (fo fa fb : Nat → Nat) (o l k : Nat) : List (Int × Int) := ((List.range n).filter fun j => fo j % o == k).map fun j => (((fa j % (l + 1) : Nat) : Int), ((fb j % (l + 1) : Nat) : Int))
theorem csOf_succ (n : Nat) (fo fa fb : Nat → Nat) (o l k : Nat) : csOf (n + 1) fo fa fb o l k = csOf n fo fa fb o l k ++ if fo n % o = k then [(((fa n % (l + 1) : Nat) : Int), ((fb n % (l + 1) : Nat) : Int))] else [] := by
  simp only [csOf, List.range_succ, List.filter_append, List.map_append]
  by_cases h : fo n % o = k
  · rw [if_pos h]; simp [h]
  · rw [if_neg h]; simp [h]
theorem csOf_len (n : Nat) (fo fa fb : Nat → Nat) (o l k : Nat) : (csOf n fo fa fb o l k).length ≤ n := by
  simp only [csOf, List.length_map]
  have := List.length_filter_le (fun j => fo j % o == k) (List.range n)
  simpa using this

/-- What the iterator reads. -/
structure Cap (W : World) (b0 b1 b2 b3 : Nat) (sa : Option Addr) (n cap o l k : Nat) (fo fa fb : Nat → Nat) (S : Nat → Prop) : Prop where
  c0 : W.cell? ⟨b0, 0, none⟩ = some (.slice sa n cap)
  c1 : W.cell? ⟨b1, 0, none⟩ = some (.int .i64 o)
  c2 : W.cell? ⟨b2, 0, none⟩ = some (.int .i64 k)
  c3 : W.cell? ⟨b3, 0, none⟩ = some (.int .i64 l)
  row : ∀ j, j < n → ∃ b off, sa = some ⟨b, off, none⟩ ∧ ¬ S b ∧ W.cell? ⟨b, off + j * 3, none⟩ = some (.int .u8 (fo j : Int)) ∧ W.cell? ⟨b, off + j * 3 + 1, none⟩ = some (.int .u8 (fa j : Int)) ∧ W.cell? ⟨b, off + j * 3 + 2, none⟩ = some (.int .u8 (fb j : Int)) ∧ fo j ≤ 255 ∧ fa j ≤ 255 ∧ fb j ≤ 255
  s : ¬ S b0 ∧ ¬ S b1 ∧ ¬ S b2 ∧ ¬ S b3

theorem Touch.cell {S : Nat → Prop} {W W' : World} (h : Touch S W W') {b o : Nat} {v : Value} (hc : W.cell? ⟨b, o, none⟩ = some v) (hs : ¬ S b) : W'.cell? ⟨b, o, none⟩ = some v :=
  (World.cell?_of_block (a := ⟨b, o, none⟩) (h.block b (World.block_lt_of_cell? _ _ hc) hs)).trans hc

theorem Cap.touch {W W' : World} {b0 b1 b2 b3 : Nat} {sa : Option Addr} {n cap o l k : Nat} {fo fa fb : Nat → Nat} {S : Nat → Prop} (h : Cap W b0 b1 b2 b3 sa n cap o l k fo fa fb S) (ht : Touch S W W') : Cap W' b0 b1 b2 b3 sa n cap o l k fo fa fb S :=
  ⟨ht.cell h.c0 h.s.1, ht.cell h.c1 h.s.2.1, ht.cell h.c2 h.s.2.2.1, ht.cell h.c3 h.s.2.2.2, fun j hj => by
    obtain ⟨b, off, e, hs, x0, x1, x2, r⟩ := h.row j hj
    exact ⟨b, off, e, hs, ht.cell x0 hs, ht.cell x1 hs, ht.cell x2 hs, r⟩, h.s⟩

/-- A post that asks a normal end. -/
def onNormal (R : Act → World → Prop) : Exit → Act → World → Prop
  | .normal, a, w => R a w
  | .ret, _, _ => False
  | .exit _, _, _ => False
  | .goto _, _, _ => False
  | .panic _, _, _ => False
  | .outgrown, _, _ => False
theorem onNormal_le {R : Act → World → Prop} {Q : Exit → Act → World → Prop} (h : ∀ a w, R a w → Q .normal a w) : ∀ (e : Exit) (a : Act) (w : World), onNormal R e a w → Q e a w
  | .normal, _, _, x => h _ _ x
  | .ret, _, _, x => x.elim
  | .exit _, _, _, x => x.elim
  | .goto _, _, _, x => x.elim
  | .panic _, _, _, x => x.elim
  | .outgrown, _, _, x => x.elim

set_option maxHeartbeats 8000000 in
set_option maxRecDepth 100000 in
theorem seq23 (b0 b1 b2 b3 : Nat) (sa : Option Addr) (n cap o l k : Nat) (fo fa fb : Nat → Nat) (S : Nat → Prop) (w0 : World) (hC : Cap w0 b0 b1 b2 b3 sa n cap o l k fo fa fb S) (hn : n ≤ 300) (ho : 1 ≤ o) (ho4 : o ≤ 4) (hl : l ≤ 16) :
    SeqStopsK Fence.wide 2 Yba.prog 23 #[.pointer (some ⟨b0, 0, none⟩), .pointer (some ⟨b1, 0, none⟩), .pointer (some ⟨b2, 0, none⟩), .pointer (some ⟨b3, 0, none⟩)] (fun x : Int × Int => #[.int .i64 x.1, .int .i64 x.2]) (Touch S) (fun xs => xs = csOf n fo fa fb o l k) (fun _ => True) n w0 := fun lp J Jx W hW hJ hJx hY h0 => by
  have hCW : Cap W b0 b1 b2 b3 sa n cap o l k fo fa fb S := hC.touch (Touch.below hW)
  have HY : Hid (∀ pre x W1, J pre W1 → pre.length < n → YieldAt Fence.wide (2 - 1) Yba.prog lp #[.int .i64 x.1, .int .i64 x.2] W1 fun e W' => (e = .returned (.bool true) ∧ J (pre ++ [x]) W' ∧ Touch S W1 W') ∨ (e = .returned (.bool false) ∧ Jx (pre ++ [x]) W')) := hY
  have HJ : Hid (AbidesFrom W.heap.size J) := hJ
  have HL : Hid (n ≤ 300 ∧ 1 ≤ o ∧ o ≤ 4 ∧ l ≤ 16) := ⟨hn, ho, ho4, hl⟩
  have wl : IntKind.i64.wrap ((l : Int) + 1) = (l : Int) + 1 := by rw [IntKind.wrap_i64]; omega
  have ho0 : ¬ ((o : Int) = 0) := by omega
  have hl0 : ¬ ((l : Int) + 1 = 0) := by omega
  clear hY hJ hJx hn ho ho4 hl hC hW
  refine callsIn_of_wp Yba.func23 rfl trivial ?_ rfl
  simp only [Yba.ntmps23, List.size_toArray, List.length_cons, List.length_nil, Nat.reduceAdd, Nat.reduceSub, Array.replicate_succ, Array.replicate_zero, List.push_toArray, List.append_toArray, List.nil_append, List.cons_append]
  gi_wp2_with fail
  gi_loopw [6] (fun v wr => ∃ j : Nat, v = .int .i64 j ∧ j ≤ n ∧ W.heap.size ≤ wr.heap.size ∧ Cap wr b0 b1 b2 b3 sa n cap o l k fo fa fb S ∧ J (csOf j fo fa fb o l k) wr) (fun v _ => n - (intOf v).toNat)
  case atStart => exact ⟨0, rfl, Nat.zero_le _, Nat.le_refl _, hCW, h0⟩
  case round =>
    clear hCW h0
    obtain ⟨j, rfl, hj, hsz, hC, hJr⟩ := hrel
    have x0 := hC.c0
    by_cases hjn : j < n
    · have t1 : (j : Int) < (n : Int) := by omega
      have t0 : (0 : Int) ≤ (j : Int) := by omega
      obtain ⟨b, off, hsa, _, c0, c1, c2, r0, r1, r2⟩ := hC.row j hjn
      obtain ⟨hn, ho, ho4, hl⟩ := HL.out
      obtain ⟨vo, hvo⟩ : ∃ vo, fo j = vo := ⟨_, rfl⟩
      obtain ⟨va, hva⟩ : ∃ va, fa j = va := ⟨_, rfl⟩
      obtain ⟨vb, hvb⟩ : ∃ vb, fb j = vb := ⟨_, rfl⟩
      rw [hvo] at c0 r0
      rw [hva] at c1 r1
      rw [hvb] at c2 r2
      obtain ⟨m, hm⟩ : ∃ m, vo % o = m := ⟨_, rfl⟩
      obtain ⟨ma, hma⟩ : ∃ ma, va % (l + 1) = ma := ⟨_, rfl⟩
      obtain ⟨mb, hmb⟩ : ∃ mb, vb % (l + 1) = mb := ⟨_, rfl⟩
      have e1 : (vo : Int).tmod (o : Int) = (m : Int) := by rw [Int.tmod_eq_emod_of_nonneg (by omega), ← hm]; omega
      have e2 : (va : Int).tmod ((l : Int) + 1) = (ma : Int) := by rw [Int.tmod_eq_emod_of_nonneg (by omega), ← hma, Int.natCast_emod]; rfl
      have e3 : (vb : Int).tmod ((l : Int) + 1) = (mb : Int) := by rw [Int.tmod_eq_emod_of_nonneg (by omega), ← hmb, Int.natCast_emod]; rfl
      have hm4 : m < 4 := by have := Nat.mod_lt vo (show 0 < o by omega); omega
      have hma4 : ma < 17 := by have := Nat.mod_lt va (show 0 < l + 1 by omega); omega
      have hmb4 : mb < 17 := by have := Nat.mod_lt vb (show 0 < l + 1 by omega); omega
      have w0 : IntKind.i64.wrap (vo : Int) = (vo : Int) := by rw [IntKind.wrap_i64]; omega
      have w1 : IntKind.i64.wrap (va : Int) = (va : Int) := by rw [IntKind.wrap_i64]; omega
      have w2 : IntKind.i64.wrap (vb : Int) = (vb : Int) := by rw [IntKind.wrap_i64]; omega
      have w3 : IntKind.i64.wrap (m : Int) = (m : Int) := by rw [IntKind.wrap_i64]; omega
      have w4 : IntKind.i64.wrap (ma : Int) = (ma : Int) := by rw [IntKind.wrap_i64]; omega
      have w5 : IntKind.i64.wrap (mb : Int) = (mb : Int) := by rw [IntKind.wrap_i64]; omega
      have w6 : IntKind.i64.wrap ((j : Int) + 1) = (j : Int) + 1 := by rw [IntKind.wrap_i64]; omega
      have hcs := csOf_succ j fo fa fb o l k
      rw [hvo, hva, hvb, hm, hma, hmb] at hcs
      have hlen := csOf_len j fo fa fb o l k
      have HCS : Hid (csOf (j + 1) fo fa fb o l k = csOf j fo fa fb o l k ++ if m = k then [((ma : Int), (mb : Int))] else []) := hcs
      have HLn : Hid ((csOf j fo fa fb o l k).length < n) := (by omega : (csOf j fo fa fb o l k).length < n)
      have HM : Hid (n - (j + 1) < n - j) := (by omega : n - (j + 1) < n - j)
      have hCe := hC.touch (S := S) (Touch.below ((Below.refl _ wr).alloc (Nat.le_refl _) (.cells #[.int .u8 (vo : Int), .int .u8 (va : Int), .int .u8 (vb : Int)] 79)))
      have hJe := HJ.out _ _ _ none hJr (World.grownBy_alloc wr (.cells #[.int .u8 (vo : Int), .int .u8 (va : Int), .int .u8 (vb : Int)] 79) none) (fun r e => by cases e)
      have hsze : W.heap.size ≤ (wr.alloc (.cells #[.int .u8 (vo : Int), .int .u8 (va : Int), .int .u8 (vb : Int)] 79)).heap.size := by simp; omega
      subst hsa
      clear hcs hlen hvo hva hvb hm hma hmb r0 r1 r2 hm4 hma4 hmb4 hn ho ho4 hl
      gi_wp2_with fail
      obtain ⟨We, hWe⟩ : ∃ We, wr.alloc (.cells #[.int .u8 (vo : Int), .int .u8 (va : Int), .int .u8 (vb : Int)] 79) = We := ⟨_, rfl⟩
      have z0 : We.cell? ⟨wr.heap.size, 0, none⟩ = some (.int .u8 (vo : Int)) := by rw [← hWe]; simp
      have z1 : We.cell? ⟨wr.heap.size, 1, none⟩ = some (.int .u8 (va : Int)) := by rw [← hWe]; simp
      have z2 : We.cell? ⟨wr.heap.size, 2, none⟩ = some (.int .u8 (vb : Int)) := by rw [← hWe]; simp
      rw [hWe] at hCe hJe hsze ⊢
      have y0 := hCe.c0
      have y1 := hCe.c1
      have y2 := hCe.c2
      have y3 := hCe.c3
      clear hWe c0 c1 c2 x0 hC hJr
      gi_region
      have hCd : Cap We.drew b0 b1 b2 b3 (some ⟨b, off, none⟩) n cap o l k fo fa fb S := hCe.touch ((Touch.refl _ We).drew)
      have hJd : J (csOf j fo fa fb o l k) We.drew := HJ.out _ _ _ none hJe ⟨rfl, rfl, rfl, Nat.le_refl _, fun _ _ _ => rfl⟩ (fun r e => by cases e)
      have hJdd : J (csOf j fo fa fb o l k) We.drew.drew := HJ.out _ _ _ none hJd ⟨rfl, rfl, rfl, Nat.le_refl _, fun _ _ _ => rfl⟩ (fun r e => by cases e)
      have hCdd : Cap We.drew.drew b0 b1 b2 b3 (some ⟨b, off, none⟩) n cap o l k fo fa fb S := hCd.touch ((Touch.refl _ We.drew).drew)
      have hszd : W.heap.size ≤ We.drew.heap.size := hsze
      clear hCe hJe hsze
      by_cases q1 : m = k
      · subst q1
        obtain ⟨fy, ty, ay, by_, hy, hR⟩ := HY.out (csOf j fo fa fb o l m) ((ma : Int), (mb : Int)) We.drew.drew hJdd HLn.out
        dsimp only at hy
        have HCS2 : Hid (csOf (j + 1) fo fa fb o l m = csOf j fo fa fb o l m ++ [((ma : Int), (mb : Int))]) := (by rw [HCS.out, if_pos rfl] : csOf (j + 1) fo fa fb o l m = csOf j fo fa fb o l m ++ [((ma : Int), (mb : Int))])
        gi_wp2_with fail
        refine wpIn_mono (Q := onNormal fun a' W3 => (a' = { tmps := #[.func (.yield lp) #[] #[], .pointer (some ⟨b0, 0, none⟩), .pointer (some ⟨b1, 0, none⟩), .pointer (some ⟨b2, 0, none⟩), .pointer (some ⟨b3, 0, none⟩), undef, .int .i64 (j : Int), .pointer (some ⟨wr.heap.size, 0, none⟩), .int .i64 (j : Int), .slice (some ⟨b, off, none⟩) n cap, .int .i64 (n : Int), .bool true, u12, u13, .slice (some ⟨b, off, none⟩) n cap, .int .i64 (j : Int), .pointer (some ⟨b, off + j * 3, none⟩), .agg #[.int .u8 (vo : Int), .int .u8 (va : Int), .int .u8 (vb : Int)], .pointer (some ⟨wr.heap.size, 0, none⟩), .int .u8 (vo : Int), .int .i64 (vo : Int), .int .i64 (o : Int), .int .i64 (m : Int), .int .i64 (m : Int), .bool false, .func (.yield lp) #[] #[], .pointer (some ⟨wr.heap.size, 1, none⟩), .int .u8 (va : Int), .int .i64 (va : Int), .int .i64 (l : Int), .int .i64 ((l : Int) + 1), .int .i64 (ma : Int), .pointer (some ⟨wr.heap.size, 2, none⟩), .int .u8 (vb : Int), .int .i64 (vb : Int), .int .i64 (l : Int), .int .i64 ((l : Int) + 1), .int .i64 (mb : Int), .bool true, .bool false], defers := [] } ∧ J (csOf j fo fa fb o l m ++ [((ma : Int), (mb : Int))]) W3 ∧ Touch S We.drew.drew W3) ∨ (a' = { tmps := #[.func (.yield lp) #[] #[], .pointer (some ⟨b0, 0, none⟩), .pointer (some ⟨b1, 0, none⟩), .pointer (some ⟨b2, 0, none⟩), .pointer (some ⟨b3, 0, none⟩), undef, .int .i64 (j : Int), .pointer (some ⟨wr.heap.size, 0, none⟩), .int .i64 (j : Int), .slice (some ⟨b, off, none⟩) n cap, .int .i64 (n : Int), .bool true, u12, u13, .slice (some ⟨b, off, none⟩) n cap, .int .i64 (j : Int), .pointer (some ⟨b, off + j * 3, none⟩), .agg #[.int .u8 (vo : Int), .int .u8 (va : Int), .int .u8 (vb : Int)], .pointer (some ⟨wr.heap.size, 0, none⟩), .int .u8 (vo : Int), .int .i64 (vo : Int), .int .i64 (o : Int), .int .i64 (m : Int), .int .i64 (m : Int), .bool false, .func (.yield lp) #[] #[], .pointer (some ⟨wr.heap.size, 1, none⟩), .int .u8 (va : Int), .int .i64 (va : Int), .int .i64 (l : Int), .int .i64 ((l : Int) + 1), .int .i64 (ma : Int), .pointer (some ⟨wr.heap.size, 2, none⟩), .int .u8 (vb : Int), .int .i64 (vb : Int), .int .i64 (l : Int), .int .i64 ((l : Int) + 1), .int .i64 (mb : Int), .bool false, .bool true], defers := [] } ∧ Jx (csOf j fo fa fb o l m ++ [((ma : Int), (mb : Int))]) W3)) ?reg (onNormal_le ?imp)
        case imp =>
          rintro a' W3 (⟨rfl, hJ3, hk3⟩ | ⟨rfl, hx3⟩)
          · have hC3 := hCdd.touch hk3
            have hs3 : W.heap.size ≤ W3.heap.size := Nat.le_trans hszd hk3.size
            clear hR hy
            gi_wp2
            go_roundw
            case rel => exact ⟨j + 1, rfl, by omega, hs3, hC3, by rw [HCS2.out]; exact hJ3⟩
            case measure => simpa [intOf] using HM.out
          · clear hR hy
            gi_wp2
            refine bodyPost_ret (results_none rfl _ _ _) rfl ?_
            exact ⟨⟨_, rfl⟩, .inr ⟨_, trivial, hx3⟩⟩
        refine wpIn_region_any (by kernel_rfl) ?_
        show wpAnyIn Fence.wide 2 Yba.prog .any _ _ 15 (Array.replicate 15 false) _ We.drew.drew
        refine wpAnyIn_take (i := 0) (v := .func (.yield lp) #[] #[]) rfl rfl (by kernel_rfl) (by kernel_rfl) (by kernel_rfl) (fun _ _ _ h => h) ⟨Or.inl ⟨by rfl, fun w => by go_simp⟩, fun _ => rfl⟩ ?_
        refine wpAnyIn_take (i := 1) (v := .pointer (some ⟨wr.heap.size, 1, none⟩)) rfl rfl (by kernel_rfl) (by kernel_rfl) (by kernel_rfl) (fun _ _ _ h => h) ⟨Or.inl ⟨by rfl, fun w => by go_simp⟩, fun _ => rfl⟩ ?_
        refine wpAnyIn_take (i := 7) (v := .pointer (some ⟨wr.heap.size, 2, none⟩)) rfl rfl (by kernel_rfl) (by kernel_rfl) (by kernel_rfl) (fun _ _ _ h => h) ⟨Or.inl ⟨by rfl, fun w => by go_simp⟩, fun _ => rfl⟩ ?_
        refine wpAnyIn_ready (rs := [2, 4, 8, 10]) (by kernel_rfl) (by simp) ?_
        refine AllReadyIn.cons rfl (fun K hK => ?_) ?_
        · go_simp
          refine hK _ _ ?_
          clear hK K
          refine wpAnyIn_take (i := 3) (v := .int .i64 (va : Int)) rfl rfl (by kernel_rfl) (by kernel_rfl) (by kernel_rfl) (fun _ _ _ h => h) ⟨Or.inl ⟨by rfl, fun w => by go_simp⟩, fun _ => rfl⟩ ?_
          refine wpAnyIn_ready (rs := [4, 8, 10]) (by kernel_rfl) (by simp) ?_
          refine AllReadyIn.cons rfl (fun K hK => ?_) ?_
          · go_simp
            refine hK _ _ ?_
            clear hK K
            refine wpAnyIn_take (i := 5) (v := .int .i64 ((l : Int) + 1)) rfl rfl (by kernel_rfl) (by kernel_rfl) (by kernel_rfl) (fun _ _ _ h => h) ⟨Or.inl ⟨by rfl, fun w => by go_simp⟩, fun _ => rfl⟩ ?_
            refine wpAnyIn_take (i := 6) (v := .int .i64 (ma : Int)) rfl rfl (by kernel_rfl) (by kernel_rfl) (by kernel_rfl) (fun _ _ _ h => h) ⟨Or.inl ⟨by rfl, fun w => by go_simp⟩, fun _ => rfl⟩ ?_
            refine wpAnyIn_ready (rs := [8, 10]) (by kernel_rfl) (by simp) ?_
            refine AllReadyIn.cons rfl (fun K hK => ?_) ?_
            · go_simp
              refine hK _ _ ?_
              clear hK K
              refine wpAnyIn_take (i := 9) (v := .int .i64 (vb : Int)) rfl rfl (by kernel_rfl) (by kernel_rfl) (by kernel_rfl) (fun _ _ _ h => h) ⟨Or.inl ⟨by rfl, fun w => by go_simp⟩, fun _ => rfl⟩ ?_
              refine wpAnyIn_ready (rs := [10]) (by kernel_rfl) (by simp) ?_
              refine AllReadyIn.cons rfl (fun K hK => ?_) ?_
              · go_simp
                refine hK _ _ ?_
                clear hK K
                refine wpAnyIn_take (i := 11) (v := .int .i64 ((l : Int) + 1)) rfl rfl (by kernel_rfl) (by kernel_rfl) (by kernel_rfl) (fun _ _ _ h => h) ⟨Or.inl ⟨by rfl, fun w => by go_simp⟩, fun _ => rfl⟩ ?_
                refine wpAnyIn_take (i := 12) (v := .int .i64 (mb : Int)) rfl rfl (by kernel_rfl) (by kernel_rfl) (by kernel_rfl) (fun _ _ _ h => h) ⟨Or.inl ⟨by rfl, fun w => by go_simp⟩, fun _ => rfl⟩ ?_
                refine wpAnyIn_ready (rs := [13]) (by kernel_rfl) (by simp) ?_
                refine AllReadyIn.cons rfl (fun K hK => ?_) AllReadyIn.nil
                go_simp
                refine hR.mono ?_
                rintro e W3 (⟨rfl, hJ3, hk3⟩ | ⟨rfl, hx3⟩)
                · refine hK _ _ ?_
                  refine wpAnyIn_ready (rs := [14]) (by kernel_rfl) (by simp) ?_
                  refine AllReadyIn.cons rfl (fun K2 hK2 => ?_) AllReadyIn.nil
                  go_simp
                  exact hK2 _ _ (wpAnyIn_done (by kernel_rfl) (.inl ⟨rfl, hJ3, hk3⟩) _)
                · refine hK _ _ ?_
                  refine wpAnyIn_ready (rs := [14]) (by kernel_rfl) (by simp) ?_
                  refine AllReadyIn.cons rfl (fun K2 hK2 => ?_) AllReadyIn.nil
                  go_simp
                  exact hK2 _ _ (wpAnyIn_done (by kernel_rfl) (.inr ⟨rfl, hx3⟩) _)
              exact AllReadyIn.nil
            refine AllReadyIn.cons rfl (fun K hK => ?_) ?_
            · go_simp
              refine hK _ _ ?_
              clear hK K
              refine wpAnyIn_take (i := 11) (v := .int .i64 ((l : Int) + 1)) rfl rfl (by kernel_rfl) (by kernel_rfl) (by kernel_rfl) (fun _ _ _ h => h) ⟨Or.inl ⟨by rfl, fun w => by go_simp⟩, fun _ => rfl⟩ ?_
              refine wpAnyIn_ready (rs := [8]) (by kernel_rfl) (by simp) ?_
              refine AllReadyIn.cons rfl (fun K hK => ?_) ?_
              · go_simp
                refine hK _ _ ?_
                clear hK K
                refine wpAnyIn_take (i := 9) (v := .int .i64 (vb : Int)) rfl rfl (by kernel_rfl) (by kernel_rfl) (by kernel_rfl) (fun _ _ _ h => h) ⟨Or.inl ⟨by rfl, fun w => by go_simp⟩, fun _ => rfl⟩ ?_
                refine wpAnyIn_take (i := 12) (v := .int .i64 (mb : Int)) rfl rfl (by kernel_rfl) (by kernel_rfl) (by kernel_rfl) (fun _ _ _ h => h) ⟨Or.inl ⟨by rfl, fun w => by go_simp⟩, fun _ => rfl⟩ ?_
                refine wpAnyIn_ready (rs := [13]) (by kernel_rfl) (by simp) ?_
                refine AllReadyIn.cons rfl (fun K hK => ?_) AllReadyIn.nil
                go_simp
                refine hR.mono ?_
                rintro e W3 (⟨rfl, hJ3, hk3⟩ | ⟨rfl, hx3⟩)
                · refine hK _ _ ?_
                  refine wpAnyIn_ready (rs := [14]) (by kernel_rfl) (by simp) ?_
                  refine AllReadyIn.cons rfl (fun K2 hK2 => ?_) AllReadyIn.nil
                  go_simp
                  exact hK2 _ _ (wpAnyIn_done (by kernel_rfl) (.inl ⟨rfl, hJ3, hk3⟩) _)
                · refine hK _ _ ?_
                  refine wpAnyIn_ready (rs := [14]) (by kernel_rfl) (by simp) ?_
                  refine AllReadyIn.cons rfl (fun K2 hK2 => ?_) AllReadyIn.nil
                  go_simp
                  exact hK2 _ _ (wpAnyIn_done (by kernel_rfl) (.inr ⟨rfl, hx3⟩) _)
              exact AllReadyIn.nil
            exact AllReadyIn.nil
          refine AllReadyIn.cons rfl (fun K hK => ?_) ?_
          · go_simp
            refine hK _ _ ?_
            clear hK K
            refine wpAnyIn_take (i := 9) (v := .int .i64 (vb : Int)) rfl rfl (by kernel_rfl) (by kernel_rfl) (by kernel_rfl) (fun _ _ _ h => h) ⟨Or.inl ⟨by rfl, fun w => by go_simp⟩, fun _ => rfl⟩ ?_
            refine wpAnyIn_ready (rs := [4, 10]) (by kernel_rfl) (by simp) ?_
            refine AllReadyIn.cons rfl (fun K hK => ?_) ?_
            · go_simp
              refine hK _ _ ?_
              clear hK K
              refine wpAnyIn_take (i := 5) (v := .int .i64 ((l : Int) + 1)) rfl rfl (by kernel_rfl) (by kernel_rfl) (by kernel_rfl) (fun _ _ _ h => h) ⟨Or.inl ⟨by rfl, fun w => by go_simp⟩, fun _ => rfl⟩ ?_
              refine wpAnyIn_take (i := 6) (v := .int .i64 (ma : Int)) rfl rfl (by kernel_rfl) (by kernel_rfl) (by kernel_rfl) (fun _ _ _ h => h) ⟨Or.inl ⟨by rfl, fun w => by go_simp⟩, fun _ => rfl⟩ ?_
              refine wpAnyIn_ready (rs := [10]) (by kernel_rfl) (by simp) ?_
              refine AllReadyIn.cons rfl (fun K hK => ?_) ?_
              · go_simp
                refine hK _ _ ?_
                clear hK K
                refine wpAnyIn_take (i := 11) (v := .int .i64 ((l : Int) + 1)) rfl rfl (by kernel_rfl) (by kernel_rfl) (by kernel_rfl) (fun _ _ _ h => h) ⟨Or.inl ⟨by rfl, fun w => by go_simp⟩, fun _ => rfl⟩ ?_
                refine wpAnyIn_take (i := 12) (v := .int .i64 (mb : Int)) rfl rfl (by kernel_rfl) (by kernel_rfl) (by kernel_rfl) (fun _ _ _ h => h) ⟨Or.inl ⟨by rfl, fun w => by go_simp⟩, fun _ => rfl⟩ ?_
                refine wpAnyIn_ready (rs := [13]) (by kernel_rfl) (by simp) ?_
                refine AllReadyIn.cons rfl (fun K hK => ?_) AllReadyIn.nil
                go_simp
                refine hR.mono ?_
                rintro e W3 (⟨rfl, hJ3, hk3⟩ | ⟨rfl, hx3⟩)
                · refine hK _ _ ?_
                  refine wpAnyIn_ready (rs := [14]) (by kernel_rfl) (by simp) ?_
                  refine AllReadyIn.cons rfl (fun K2 hK2 => ?_) AllReadyIn.nil
                  go_simp
                  exact hK2 _ _ (wpAnyIn_done (by kernel_rfl) (.inl ⟨rfl, hJ3, hk3⟩) _)
                · refine hK _ _ ?_
                  refine wpAnyIn_ready (rs := [14]) (by kernel_rfl) (by simp) ?_
                  refine AllReadyIn.cons rfl (fun K2 hK2 => ?_) AllReadyIn.nil
                  go_simp
                  exact hK2 _ _ (wpAnyIn_done (by kernel_rfl) (.inr ⟨rfl, hx3⟩) _)
              exact AllReadyIn.nil
            refine AllReadyIn.cons rfl (fun K hK => ?_) ?_
            · go_simp
              refine hK _ _ ?_
              clear hK K
              refine wpAnyIn_take (i := 11) (v := .int .i64 ((l : Int) + 1)) rfl rfl (by kernel_rfl) (by kernel_rfl) (by kernel_rfl) (fun _ _ _ h => h) ⟨Or.inl ⟨by rfl, fun w => by go_simp⟩, fun _ => rfl⟩ ?_
              refine wpAnyIn_take (i := 12) (v := .int .i64 (mb : Int)) rfl rfl (by kernel_rfl) (by kernel_rfl) (by kernel_rfl) (fun _ _ _ h => h) ⟨Or.inl ⟨by rfl, fun w => by go_simp⟩, fun _ => rfl⟩ ?_
              refine wpAnyIn_ready (rs := [4]) (by kernel_rfl) (by simp) ?_
              refine AllReadyIn.cons rfl (fun K hK => ?_) ?_
              · go_simp
                refine hK _ _ ?_
                clear hK K
                refine wpAnyIn_take (i := 5) (v := .int .i64 ((l : Int) + 1)) rfl rfl (by kernel_rfl) (by kernel_rfl) (by kernel_rfl) (fun _ _ _ h => h) ⟨Or.inl ⟨by rfl, fun w => by go_simp⟩, fun _ => rfl⟩ ?_
                refine wpAnyIn_take (i := 6) (v := .int .i64 (ma : Int)) rfl rfl (by kernel_rfl) (by kernel_rfl) (by kernel_rfl) (fun _ _ _ h => h) ⟨Or.inl ⟨by rfl, fun w => by go_simp⟩, fun _ => rfl⟩ ?_
                refine wpAnyIn_ready (rs := [13]) (by kernel_rfl) (by simp) ?_
                refine AllReadyIn.cons rfl (fun K hK => ?_) AllReadyIn.nil
                go_simp
                refine hR.mono ?_
                rintro e W3 (⟨rfl, hJ3, hk3⟩ | ⟨rfl, hx3⟩)
                · refine hK _ _ ?_
                  refine wpAnyIn_ready (rs := [14]) (by kernel_rfl) (by simp) ?_
                  refine AllReadyIn.cons rfl (fun K2 hK2 => ?_) AllReadyIn.nil
                  go_simp
                  exact hK2 _ _ (wpAnyIn_done (by kernel_rfl) (.inl ⟨rfl, hJ3, hk3⟩) _)
                · refine hK _ _ ?_
                  refine wpAnyIn_ready (rs := [14]) (by kernel_rfl) (by simp) ?_
                  refine AllReadyIn.cons rfl (fun K2 hK2 => ?_) AllReadyIn.nil
                  go_simp
                  exact hK2 _ _ (wpAnyIn_done (by kernel_rfl) (.inr ⟨rfl, hx3⟩) _)
              exact AllReadyIn.nil
            exact AllReadyIn.nil
          refine AllReadyIn.cons rfl (fun K hK => ?_) ?_
          · go_simp
            refine hK _ _ ?_
            clear hK K
            refine wpAnyIn_take (i := 11) (v := .int .i64 ((l : Int) + 1)) rfl rfl (by kernel_rfl) (by kernel_rfl) (by kernel_rfl) (fun _ _ _ h => h) ⟨Or.inl ⟨by rfl, fun w => by go_simp⟩, fun _ => rfl⟩ ?_
            refine wpAnyIn_ready (rs := [4, 8]) (by kernel_rfl) (by simp) ?_
            refine AllReadyIn.cons rfl (fun K hK => ?_) ?_
            · go_simp
              refine hK _ _ ?_
              clear hK K
              refine wpAnyIn_take (i := 5) (v := .int .i64 ((l : Int) + 1)) rfl rfl (by kernel_rfl) (by kernel_rfl) (by kernel_rfl) (fun _ _ _ h => h) ⟨Or.inl ⟨by rfl, fun w => by go_simp⟩, fun _ => rfl⟩ ?_
              refine wpAnyIn_take (i := 6) (v := .int .i64 (ma : Int)) rfl rfl (by kernel_rfl) (by kernel_rfl) (by kernel_rfl) (fun _ _ _ h => h) ⟨Or.inl ⟨by rfl, fun w => by go_simp⟩, fun _ => rfl⟩ ?_
              refine wpAnyIn_ready (rs := [8]) (by kernel_rfl) (by simp) ?_
              refine AllReadyIn.cons rfl (fun K hK => ?_) ?_
              · go_simp
                refine hK _ _ ?_
                clear hK K
                refine wpAnyIn_take (i := 9) (v := .int .i64 (vb : Int)) rfl rfl (by kernel_rfl) (by kernel_rfl) (by kernel_rfl) (fun _ _ _ h => h) ⟨Or.inl ⟨by rfl, fun w => by go_simp⟩, fun _ => rfl⟩ ?_
                refine wpAnyIn_take (i := 12) (v := .int .i64 (mb : Int)) rfl rfl (by kernel_rfl) (by kernel_rfl) (by kernel_rfl) (fun _ _ _ h => h) ⟨Or.inl ⟨by rfl, fun w => by go_simp⟩, fun _ => rfl⟩ ?_
                refine wpAnyIn_ready (rs := [13]) (by kernel_rfl) (by simp) ?_
                refine AllReadyIn.cons rfl (fun K hK => ?_) AllReadyIn.nil
                go_simp
                refine hR.mono ?_
                rintro e W3 (⟨rfl, hJ3, hk3⟩ | ⟨rfl, hx3⟩)
                · refine hK _ _ ?_
                  refine wpAnyIn_ready (rs := [14]) (by kernel_rfl) (by simp) ?_
                  refine AllReadyIn.cons rfl (fun K2 hK2 => ?_) AllReadyIn.nil
                  go_simp
                  exact hK2 _ _ (wpAnyIn_done (by kernel_rfl) (.inl ⟨rfl, hJ3, hk3⟩) _)
                · refine hK _ _ ?_
                  refine wpAnyIn_ready (rs := [14]) (by kernel_rfl) (by simp) ?_
                  refine AllReadyIn.cons rfl (fun K2 hK2 => ?_) AllReadyIn.nil
                  go_simp
                  exact hK2 _ _ (wpAnyIn_done (by kernel_rfl) (.inr ⟨rfl, hx3⟩) _)
              exact AllReadyIn.nil
            refine AllReadyIn.cons rfl (fun K hK => ?_) ?_
            · go_simp
              refine hK _ _ ?_
              clear hK K
              refine wpAnyIn_take (i := 9) (v := .int .i64 (vb : Int)) rfl rfl (by kernel_rfl) (by kernel_rfl) (by kernel_rfl) (fun _ _ _ h => h) ⟨Or.inl ⟨by rfl, fun w => by go_simp⟩, fun _ => rfl⟩ ?_
              refine wpAnyIn_take (i := 12) (v := .int .i64 (mb : Int)) rfl rfl (by kernel_rfl) (by kernel_rfl) (by kernel_rfl) (fun _ _ _ h => h) ⟨Or.inl ⟨by rfl, fun w => by go_simp⟩, fun _ => rfl⟩ ?_
              refine wpAnyIn_ready (rs := [4]) (by kernel_rfl) (by simp) ?_
              refine AllReadyIn.cons rfl (fun K hK => ?_) ?_
              · go_simp
                refine hK _ _ ?_
                clear hK K
                refine wpAnyIn_take (i := 5) (v := .int .i64 ((l : Int) + 1)) rfl rfl (by kernel_rfl) (by kernel_rfl) (by kernel_rfl) (fun _ _ _ h => h) ⟨Or.inl ⟨by rfl, fun w => by go_simp⟩, fun _ => rfl⟩ ?_
                refine wpAnyIn_take (i := 6) (v := .int .i64 (ma : Int)) rfl rfl (by kernel_rfl) (by kernel_rfl) (by kernel_rfl) (fun _ _ _ h => h) ⟨Or.inl ⟨by rfl, fun w => by go_simp⟩, fun _ => rfl⟩ ?_
                refine wpAnyIn_ready (rs := [13]) (by kernel_rfl) (by simp) ?_
                refine AllReadyIn.cons rfl (fun K hK => ?_) AllReadyIn.nil
                go_simp
                refine hR.mono ?_
                rintro e W3 (⟨rfl, hJ3, hk3⟩ | ⟨rfl, hx3⟩)
                · refine hK _ _ ?_
                  refine wpAnyIn_ready (rs := [14]) (by kernel_rfl) (by simp) ?_
                  refine AllReadyIn.cons rfl (fun K2 hK2 => ?_) AllReadyIn.nil
                  go_simp
                  exact hK2 _ _ (wpAnyIn_done (by kernel_rfl) (.inl ⟨rfl, hJ3, hk3⟩) _)
                · refine hK _ _ ?_
                  refine wpAnyIn_ready (rs := [14]) (by kernel_rfl) (by simp) ?_
                  refine AllReadyIn.cons rfl (fun K2 hK2 => ?_) AllReadyIn.nil
                  go_simp
                  exact hK2 _ _ (wpAnyIn_done (by kernel_rfl) (.inr ⟨rfl, hx3⟩) _)
              exact AllReadyIn.nil
            exact AllReadyIn.nil
          exact AllReadyIn.nil
        refine AllReadyIn.cons rfl (fun K hK => ?_) ?_
        · go_simp
          refine hK _ _ ?_
          clear hK K
          refine wpAnyIn_take (i := 5) (v := .int .i64 ((l : Int) + 1)) rfl rfl (by kernel_rfl) (by kernel_rfl) (by kernel_rfl) (fun _ _ _ h => h) ⟨Or.inl ⟨by rfl, fun w => by go_simp⟩, fun _ => rfl⟩ ?_
          refine wpAnyIn_ready (rs := [2, 8, 10]) (by kernel_rfl) (by simp) ?_
          refine AllReadyIn.cons rfl (fun K hK => ?_) ?_
          · go_simp
            refine hK _ _ ?_
            clear hK K
            refine wpAnyIn_take (i := 3) (v := .int .i64 (va : Int)) rfl rfl (by kernel_rfl) (by kernel_rfl) (by kernel_rfl) (fun _ _ _ h => h) ⟨Or.inl ⟨by rfl, fun w => by go_simp⟩, fun _ => rfl⟩ ?_
            refine wpAnyIn_take (i := 6) (v := .int .i64 (ma : Int)) rfl rfl (by kernel_rfl) (by kernel_rfl) (by kernel_rfl) (fun _ _ _ h => h) ⟨Or.inl ⟨by rfl, fun w => by go_simp⟩, fun _ => rfl⟩ ?_
            refine wpAnyIn_ready (rs := [8, 10]) (by kernel_rfl) (by simp) ?_
            refine AllReadyIn.cons rfl (fun K hK => ?_) ?_
            · go_simp
              refine hK _ _ ?_
              clear hK K
              refine wpAnyIn_take (i := 9) (v := .int .i64 (vb : Int)) rfl rfl (by kernel_rfl) (by kernel_rfl) (by kernel_rfl) (fun _ _ _ h => h) ⟨Or.inl ⟨by rfl, fun w => by go_simp⟩, fun _ => rfl⟩ ?_
              refine wpAnyIn_ready (rs := [10]) (by kernel_rfl) (by simp) ?_
              refine AllReadyIn.cons rfl (fun K hK => ?_) ?_
              · go_simp
                refine hK _ _ ?_
                clear hK K
                refine wpAnyIn_take (i := 11) (v := .int .i64 ((l : Int) + 1)) rfl rfl (by kernel_rfl) (by kernel_rfl) (by kernel_rfl) (fun _ _ _ h => h) ⟨Or.inl ⟨by rfl, fun w => by go_simp⟩, fun _ => rfl⟩ ?_
                refine wpAnyIn_take (i := 12) (v := .int .i64 (mb : Int)) rfl rfl (by kernel_rfl) (by kernel_rfl) (by kernel_rfl) (fun _ _ _ h => h) ⟨Or.inl ⟨by rfl, fun w => by go_simp⟩, fun _ => rfl⟩ ?_
                refine wpAnyIn_ready (rs := [13]) (by kernel_rfl) (by simp) ?_
                refine AllReadyIn.cons rfl (fun K hK => ?_) AllReadyIn.nil
                go_simp
                refine hR.mono ?_
                rintro e W3 (⟨rfl, hJ3, hk3⟩ | ⟨rfl, hx3⟩)
                · refine hK _ _ ?_
                  refine wpAnyIn_ready (rs := [14]) (by kernel_rfl) (by simp) ?_
                  refine AllReadyIn.cons rfl (fun K2 hK2 => ?_) AllReadyIn.nil
                  go_simp
                  exact hK2 _ _ (wpAnyIn_done (by kernel_rfl) (.inl ⟨rfl, hJ3, hk3⟩) _)
                · refine hK _ _ ?_
                  refine wpAnyIn_ready (rs := [14]) (by kernel_rfl) (by simp) ?_
                  refine AllReadyIn.cons rfl (fun K2 hK2 => ?_) AllReadyIn.nil
                  go_simp
                  exact hK2 _ _ (wpAnyIn_done (by kernel_rfl) (.inr ⟨rfl, hx3⟩) _)
              exact AllReadyIn.nil
            refine AllReadyIn.cons rfl (fun K hK => ?_) ?_
            · go_simp
              refine hK _ _ ?_
              clear hK K
              refine wpAnyIn_take (i := 11) (v := .int .i64 ((l : Int) + 1)) rfl rfl (by kernel_rfl) (by kernel_rfl) (by kernel_rfl) (fun _ _ _ h => h) ⟨Or.inl ⟨by rfl, fun w => by go_simp⟩, fun _ => rfl⟩ ?_
              refine wpAnyIn_ready (rs := [8]) (by kernel_rfl) (by simp) ?_
              refine AllReadyIn.cons rfl (fun K hK => ?_) ?_
              · go_simp
                refine hK _ _ ?_
                clear hK K
                refine wpAnyIn_take (i := 9) (v := .int .i64 (vb : Int)) rfl rfl (by kernel_rfl) (by kernel_rfl) (by kernel_rfl) (fun _ _ _ h => h) ⟨Or.inl ⟨by rfl, fun w => by go_simp⟩, fun _ => rfl⟩ ?_
                refine wpAnyIn_take (i := 12) (v := .int .i64 (mb : Int)) rfl rfl (by kernel_rfl) (by kernel_rfl) (by kernel_rfl) (fun _ _ _ h => h) ⟨Or.inl ⟨by rfl, fun w => by go_simp⟩, fun _ => rfl⟩ ?_
                refine wpAnyIn_ready (rs := [13]) (by kernel_rfl) (by simp) ?_
                refine AllReadyIn.cons rfl (fun K hK => ?_) AllReadyIn.nil
                go_simp
                refine hR.mono ?_
                rintro e W3 (⟨rfl, hJ3, hk3⟩ | ⟨rfl, hx3⟩)
                · refine hK _ _ ?_
                  refine wpAnyIn_ready (rs := [14]) (by kernel_rfl) (by simp) ?_
                  refine AllReadyIn.cons rfl (fun K2 hK2 => ?_) AllReadyIn.nil
                  go_simp
                  exact hK2 _ _ (wpAnyIn_done (by kernel_rfl) (.inl ⟨rfl, hJ3, hk3⟩) _)
                · refine hK _ _ ?_
                  refine wpAnyIn_ready (rs := [14]) (by kernel_rfl) (by simp) ?_
                  refine AllReadyIn.cons rfl (fun K2 hK2 => ?_) AllReadyIn.nil
                  go_simp
                  exact hK2 _ _ (wpAnyIn_done (by kernel_rfl) (.inr ⟨rfl, hx3⟩) _)
              exact AllReadyIn.nil
            exact AllReadyIn.nil
          refine AllReadyIn.cons rfl (fun K hK => ?_) ?_
          · go_simp
            refine hK _ _ ?_
            clear hK K
            refine wpAnyIn_take (i := 9) (v := .int .i64 (vb : Int)) rfl rfl (by kernel_rfl) (by kernel_rfl) (by kernel_rfl) (fun _ _ _ h => h) ⟨Or.inl ⟨by rfl, fun w => by go_simp⟩, fun _ => rfl⟩ ?_
            refine wpAnyIn_ready (rs := [2, 10]) (by kernel_rfl) (by simp) ?_
            refine AllReadyIn.cons rfl (fun K hK => ?_) ?_
            · go_simp
              refine hK _ _ ?_
              clear hK K
              refine wpAnyIn_take (i := 3) (v := .int .i64 (va : Int)) rfl rfl (by kernel_rfl) (by kernel_rfl) (by kernel_rfl) (fun _ _ _ h => h) ⟨Or.inl ⟨by rfl, fun w => by go_simp⟩, fun _ => rfl⟩ ?_
              refine wpAnyIn_take (i := 6) (v := .int .i64 (ma : Int)) rfl rfl (by kernel_rfl) (by kernel_rfl) (by kernel_rfl) (fun _ _ _ h => h) ⟨Or.inl ⟨by rfl, fun w => by go_simp⟩, fun _ => rfl⟩ ?_
              refine wpAnyIn_ready (rs := [10]) (by kernel_rfl) (by simp) ?_
              refine AllReadyIn.cons rfl (fun K hK => ?_) ?_
              · go_simp
                refine hK _ _ ?_
                clear hK K
                refine wpAnyIn_take (i := 11) (v := .int .i64 ((l : Int) + 1)) rfl rfl (by kernel_rfl) (by kernel_rfl) (by kernel_rfl) (fun _ _ _ h => h) ⟨Or.inl ⟨by rfl, fun w => by go_simp⟩, fun _ => rfl⟩ ?_
                refine wpAnyIn_take (i := 12) (v := .int .i64 (mb : Int)) rfl rfl (by kernel_rfl) (by kernel_rfl) (by kernel_rfl) (fun _ _ _ h => h) ⟨Or.inl ⟨by rfl, fun w => by go_simp⟩, fun _ => rfl⟩ ?_
                refine wpAnyIn_ready (rs := [13]) (by kernel_rfl) (by simp) ?_
                refine AllReadyIn.cons rfl (fun K hK => ?_) AllReadyIn.nil
                go_simp
                refine hR.mono ?_
                rintro e W3 (⟨rfl, hJ3, hk3⟩ | ⟨rfl, hx3⟩)
                · refine hK _ _ ?_
                  refine wpAnyIn_ready (rs := [14]) (by kernel_rfl) (by simp) ?_
                  refine AllReadyIn.cons rfl (fun K2 hK2 => ?_) AllReadyIn.nil
                  go_simp
                  exact hK2 _ _ (wpAnyIn_done (by kernel_rfl) (.inl ⟨rfl, hJ3, hk3⟩) _)
                · refine hK _ _ ?_
                  refine wpAnyIn_ready (rs := [14]) (by kernel_rfl) (by simp) ?_
                  refine AllReadyIn.cons rfl (fun K2 hK2 => ?_) AllReadyIn.nil
                  go_simp
                  exact hK2 _ _ (wpAnyIn_done (by kernel_rfl) (.inr ⟨rfl, hx3⟩) _)
              exact AllReadyIn.nil
            refine AllReadyIn.cons rfl (fun K hK => ?_) ?_
            · go_simp
              refine hK _ _ ?_
              clear hK K
              refine wpAnyIn_take (i := 11) (v := .int .i64 ((l : Int) + 1)) rfl rfl (by kernel_rfl) (by kernel_rfl) (by kernel_rfl) (fun _ _ _ h => h) ⟨Or.inl ⟨by rfl, fun w => by go_simp⟩, fun _ => rfl⟩ ?_
              refine wpAnyIn_take (i := 12) (v := .int .i64 (mb : Int)) rfl rfl (by kernel_rfl) (by kernel_rfl) (by kernel_rfl) (fun _ _ _ h => h) ⟨Or.inl ⟨by rfl, fun w => by go_simp⟩, fun _ => rfl⟩ ?_
              refine wpAnyIn_ready (rs := [2]) (by kernel_rfl) (by simp) ?_
              refine AllReadyIn.cons rfl (fun K hK => ?_) ?_
              · go_simp
                refine hK _ _ ?_
                clear hK K
                refine wpAnyIn_take (i := 3) (v := .int .i64 (va : Int)) rfl rfl (by kernel_rfl) (by kernel_rfl) (by kernel_rfl) (fun _ _ _ h => h) ⟨Or.inl ⟨by rfl, fun w => by go_simp⟩, fun _ => rfl⟩ ?_
                refine wpAnyIn_take (i := 6) (v := .int .i64 (ma : Int)) rfl rfl (by kernel_rfl) (by kernel_rfl) (by kernel_rfl) (fun _ _ _ h => h) ⟨Or.inl ⟨by rfl, fun w => by go_simp⟩, fun _ => rfl⟩ ?_
                refine wpAnyIn_ready (rs := [13]) (by kernel_rfl) (by simp) ?_
                refine AllReadyIn.cons rfl (fun K hK => ?_) AllReadyIn.nil
                go_simp
                refine hR.mono ?_
                rintro e W3 (⟨rfl, hJ3, hk3⟩ | ⟨rfl, hx3⟩)
                · refine hK _ _ ?_
                  refine wpAnyIn_ready (rs := [14]) (by kernel_rfl) (by simp) ?_
                  refine AllReadyIn.cons rfl (fun K2 hK2 => ?_) AllReadyIn.nil
                  go_simp
                  exact hK2 _ _ (wpAnyIn_done (by kernel_rfl) (.inl ⟨rfl, hJ3, hk3⟩) _)
                · refine hK _ _ ?_
                  refine wpAnyIn_ready (rs := [14]) (by kernel_rfl) (by simp) ?_
                  refine AllReadyIn.cons rfl (fun K2 hK2 => ?_) AllReadyIn.nil
                  go_simp
                  exact hK2 _ _ (wpAnyIn_done (by kernel_rfl) (.inr ⟨rfl, hx3⟩) _)
              exact AllReadyIn.nil
            exact AllReadyIn.nil
          refine AllReadyIn.cons rfl (fun K hK => ?_) ?_
          · go_simp
            refine hK _ _ ?_
            clear hK K
            refine wpAnyIn_take (i := 11) (v := .int .i64 ((l : Int) + 1)) rfl rfl (by kernel_rfl) (by kernel_rfl) (by kernel_rfl) (fun _ _ _ h => h) ⟨Or.inl ⟨by rfl, fun w => by go_simp⟩, fun _ => rfl⟩ ?_
            refine wpAnyIn_ready (rs := [2, 8]) (by kernel_rfl) (by simp) ?_
            refine AllReadyIn.cons rfl (fun K hK => ?_) ?_
            · go_simp
              refine hK _ _ ?_
              clear hK K
              refine wpAnyIn_take (i := 3) (v := .int .i64 (va : Int)) rfl rfl (by kernel_rfl) (by kernel_rfl) (by kernel_rfl) (fun _ _ _ h => h) ⟨Or.inl ⟨by rfl, fun w => by go_simp⟩, fun _ => rfl⟩ ?_
              refine wpAnyIn_take (i := 6) (v := .int .i64 (ma : Int)) rfl rfl (by kernel_rfl) (by kernel_rfl) (by kernel_rfl) (fun _ _ _ h => h) ⟨Or.inl ⟨by rfl, fun w => by go_simp⟩, fun _ => rfl⟩ ?_
              refine wpAnyIn_ready (rs := [8]) (by kernel_rfl) (by simp) ?_
              refine AllReadyIn.cons rfl (fun K hK => ?_) ?_
              · go_simp
                refine hK _ _ ?_
                clear hK K
                refine wpAnyIn_take (i := 9) (v := .int .i64 (vb : Int)) rfl rfl (by kernel_rfl) (by kernel_rfl) (by kernel_rfl) (fun _ _ _ h => h) ⟨Or.inl ⟨by rfl, fun w => by go_simp⟩, fun _ => rfl⟩ ?_
                refine wpAnyIn_take (i := 12) (v := .int .i64 (mb : Int)) rfl rfl (by kernel_rfl) (by kernel_rfl) (by kernel_rfl) (fun _ _ _ h => h) ⟨Or.inl ⟨by rfl, fun w => by go_simp⟩, fun _ => rfl⟩ ?_
                refine wpAnyIn_ready (rs := [13]) (by kernel_rfl) (by simp) ?_
                refine AllReadyIn.cons rfl (fun K hK => ?_) AllReadyIn.nil
                go_simp
                refine hR.mono ?_
                rintro e W3 (⟨rfl, hJ3, hk3⟩ | ⟨rfl, hx3⟩)
                · refine hK _ _ ?_
                  refine wpAnyIn_ready (rs := [14]) (by kernel_rfl) (by simp) ?_
                  refine AllReadyIn.cons rfl (fun K2 hK2 => ?_) AllReadyIn.nil
                  go_simp
                  exact hK2 _ _ (wpAnyIn_done (by kernel_rfl) (.inl ⟨rfl, hJ3, hk3⟩) _)
                · refine hK _ _ ?_
                  refine wpAnyIn_ready (rs := [14]) (by kernel_rfl) (by simp) ?_
                  refine AllReadyIn.cons rfl (fun K2 hK2 => ?_) AllReadyIn.nil
                  go_simp
                  exact hK2 _ _ (wpAnyIn_done (by kernel_rfl) (.inr ⟨rfl, hx3⟩) _)
              exact AllReadyIn.nil
            refine AllReadyIn.cons rfl (fun K hK => ?_) ?_
            · go_simp
              refine hK _ _ ?_
              clear hK K
              refine wpAnyIn_take (i := 9) (v := .int .i64 (vb : Int)) rfl rfl (by kernel_rfl) (by kernel_rfl) (by kernel_rfl) (fun _ _ _ h => h) ⟨Or.inl ⟨by rfl, fun w => by go_simp⟩, fun _ => rfl⟩ ?_
              refine wpAnyIn_take (i := 12) (v := .int .i64 (mb : Int)) rfl rfl (by kernel_rfl) (by kernel_rfl) (by kernel_rfl) (fun _ _ _ h => h) ⟨Or.inl ⟨by rfl, fun w => by go_simp⟩, fun _ => rfl⟩ ?_
              refine wpAnyIn_ready (rs := [2]) (by kernel_rfl) (by simp) ?_
              refine AllReadyIn.cons rfl (fun K hK => ?_) ?_
              · go_simp
                refine hK _ _ ?_
                clear hK K
                refine wpAnyIn_take (i := 3) (v := .int .i64 (va : Int)) rfl rfl (by kernel_rfl) (by kernel_rfl) (by kernel_rfl) (fun _ _ _ h => h) ⟨Or.inl ⟨by rfl, fun w => by go_simp⟩, fun _ => rfl⟩ ?_
                refine wpAnyIn_take (i := 6) (v := .int .i64 (ma : Int)) rfl rfl (by kernel_rfl) (by kernel_rfl) (by kernel_rfl) (fun _ _ _ h => h) ⟨Or.inl ⟨by rfl, fun w => by go_simp⟩, fun _ => rfl⟩ ?_
                refine wpAnyIn_ready (rs := [13]) (by kernel_rfl) (by simp) ?_
                refine AllReadyIn.cons rfl (fun K hK => ?_) AllReadyIn.nil
                go_simp
                refine hR.mono ?_
                rintro e W3 (⟨rfl, hJ3, hk3⟩ | ⟨rfl, hx3⟩)
                · refine hK _ _ ?_
                  refine wpAnyIn_ready (rs := [14]) (by kernel_rfl) (by simp) ?_
                  refine AllReadyIn.cons rfl (fun K2 hK2 => ?_) AllReadyIn.nil
                  go_simp
                  exact hK2 _ _ (wpAnyIn_done (by kernel_rfl) (.inl ⟨rfl, hJ3, hk3⟩) _)
                · refine hK _ _ ?_
                  refine wpAnyIn_ready (rs := [14]) (by kernel_rfl) (by simp) ?_
                  refine AllReadyIn.cons rfl (fun K2 hK2 => ?_) AllReadyIn.nil
                  go_simp
                  exact hK2 _ _ (wpAnyIn_done (by kernel_rfl) (.inr ⟨rfl, hx3⟩) _)
              exact AllReadyIn.nil
            exact AllReadyIn.nil
          exact AllReadyIn.nil
        refine AllReadyIn.cons rfl (fun K hK => ?_) ?_
        · go_simp
          refine hK _ _ ?_
          clear hK K
          refine wpAnyIn_take (i := 9) (v := .int .i64 (vb : Int)) rfl rfl (by kernel_rfl) (by kernel_rfl) (by kernel_rfl) (fun _ _ _ h => h) ⟨Or.inl ⟨by rfl, fun w => by go_simp⟩, fun _ => rfl⟩ ?_
          refine wpAnyIn_ready (rs := [2, 4, 10]) (by kernel_rfl) (by simp) ?_
          refine AllReadyIn.cons rfl (fun K hK => ?_) ?_
          · go_simp
            refine hK _ _ ?_
            clear hK K
            refine wpAnyIn_take (i := 3) (v := .int .i64 (va : Int)) rfl rfl (by kernel_rfl) (by kernel_rfl) (by kernel_rfl) (fun _ _ _ h => h) ⟨Or.inl ⟨by rfl, fun w => by go_simp⟩, fun _ => rfl⟩ ?_
            refine wpAnyIn_ready (rs := [4, 10]) (by kernel_rfl) (by simp) ?_
            refine AllReadyIn.cons rfl (fun K hK => ?_) ?_
            · go_simp
              refine hK _ _ ?_
              clear hK K
              refine wpAnyIn_take (i := 5) (v := .int .i64 ((l : Int) + 1)) rfl rfl (by kernel_rfl) (by kernel_rfl) (by kernel_rfl) (fun _ _ _ h => h) ⟨Or.inl ⟨by rfl, fun w => by go_simp⟩, fun _ => rfl⟩ ?_
              refine wpAnyIn_take (i := 6) (v := .int .i64 (ma : Int)) rfl rfl (by kernel_rfl) (by kernel_rfl) (by kernel_rfl) (fun _ _ _ h => h) ⟨Or.inl ⟨by rfl, fun w => by go_simp⟩, fun _ => rfl⟩ ?_
              refine wpAnyIn_ready (rs := [10]) (by kernel_rfl) (by simp) ?_
              refine AllReadyIn.cons rfl (fun K hK => ?_) ?_
              · go_simp
                refine hK _ _ ?_
                clear hK K
                refine wpAnyIn_take (i := 11) (v := .int .i64 ((l : Int) + 1)) rfl rfl (by kernel_rfl) (by kernel_rfl) (by kernel_rfl) (fun _ _ _ h => h) ⟨Or.inl ⟨by rfl, fun w => by go_simp⟩, fun _ => rfl⟩ ?_
                refine wpAnyIn_take (i := 12) (v := .int .i64 (mb : Int)) rfl rfl (by kernel_rfl) (by kernel_rfl) (by kernel_rfl) (fun _ _ _ h => h) ⟨Or.inl ⟨by rfl, fun w => by go_simp⟩, fun _ => rfl⟩ ?_
                refine wpAnyIn_ready (rs := [13]) (by kernel_rfl) (by simp) ?_
                refine AllReadyIn.cons rfl (fun K hK => ?_) AllReadyIn.nil
                go_simp
                refine hR.mono ?_
                rintro e W3 (⟨rfl, hJ3, hk3⟩ | ⟨rfl, hx3⟩)
                · refine hK _ _ ?_
                  refine wpAnyIn_ready (rs := [14]) (by kernel_rfl) (by simp) ?_
                  refine AllReadyIn.cons rfl (fun K2 hK2 => ?_) AllReadyIn.nil
                  go_simp
                  exact hK2 _ _ (wpAnyIn_done (by kernel_rfl) (.inl ⟨rfl, hJ3, hk3⟩) _)
                · refine hK _ _ ?_
                  refine wpAnyIn_ready (rs := [14]) (by kernel_rfl) (by simp) ?_
                  refine AllReadyIn.cons rfl (fun K2 hK2 => ?_) AllReadyIn.nil
                  go_simp
                  exact hK2 _ _ (wpAnyIn_done (by kernel_rfl) (.inr ⟨rfl, hx3⟩) _)
              exact AllReadyIn.nil
            refine AllReadyIn.cons rfl (fun K hK => ?_) ?_
            · go_simp
              refine hK _ _ ?_
              clear hK K
              refine wpAnyIn_take (i := 11) (v := .int .i64 ((l : Int) + 1)) rfl rfl (by kernel_rfl) (by kernel_rfl) (by kernel_rfl) (fun _ _ _ h => h) ⟨Or.inl ⟨by rfl, fun w => by go_simp⟩, fun _ => rfl⟩ ?_
              refine wpAnyIn_take (i := 12) (v := .int .i64 (mb : Int)) rfl rfl (by kernel_rfl) (by kernel_rfl) (by kernel_rfl) (fun _ _ _ h => h) ⟨Or.inl ⟨by rfl, fun w => by go_simp⟩, fun _ => rfl⟩ ?_
              refine wpAnyIn_ready (rs := [4]) (by kernel_rfl) (by simp) ?_
              refine AllReadyIn.cons rfl (fun K hK => ?_) ?_
              · go_simp
                refine hK _ _ ?_
                clear hK K
                refine wpAnyIn_take (i := 5) (v := .int .i64 ((l : Int) + 1)) rfl rfl (by kernel_rfl) (by kernel_rfl) (by kernel_rfl) (fun _ _ _ h => h) ⟨Or.inl ⟨by rfl, fun w => by go_simp⟩, fun _ => rfl⟩ ?_
                refine wpAnyIn_take (i := 6) (v := .int .i64 (ma : Int)) rfl rfl (by kernel_rfl) (by kernel_rfl) (by kernel_rfl) (fun _ _ _ h => h) ⟨Or.inl ⟨by rfl, fun w => by go_simp⟩, fun _ => rfl⟩ ?_
                refine wpAnyIn_ready (rs := [13]) (by kernel_rfl) (by simp) ?_
                refine AllReadyIn.cons rfl (fun K hK => ?_) AllReadyIn.nil
                go_simp
                refine hR.mono ?_
                rintro e W3 (⟨rfl, hJ3, hk3⟩ | ⟨rfl, hx3⟩)
                · refine hK _ _ ?_
                  refine wpAnyIn_ready (rs := [14]) (by kernel_rfl) (by simp) ?_
                  refine AllReadyIn.cons rfl (fun K2 hK2 => ?_) AllReadyIn.nil
                  go_simp
                  exact hK2 _ _ (wpAnyIn_done (by kernel_rfl) (.inl ⟨rfl, hJ3, hk3⟩) _)
                · refine hK _ _ ?_
                  refine wpAnyIn_ready (rs := [14]) (by kernel_rfl) (by simp) ?_
                  refine AllReadyIn.cons rfl (fun K2 hK2 => ?_) AllReadyIn.nil
                  go_simp
                  exact hK2 _ _ (wpAnyIn_done (by kernel_rfl) (.inr ⟨rfl, hx3⟩) _)
              exact AllReadyIn.nil
            exact AllReadyIn.nil
          refine AllReadyIn.cons rfl (fun K hK => ?_) ?_
          · go_simp
            refine hK _ _ ?_
            clear hK K
            refine wpAnyIn_take (i := 5) (v := .int .i64 ((l : Int) + 1)) rfl rfl (by kernel_rfl) (by kernel_rfl) (by kernel_rfl) (fun _ _ _ h => h) ⟨Or.inl ⟨by rfl, fun w => by go_simp⟩, fun _ => rfl⟩ ?_
            refine wpAnyIn_ready (rs := [2, 10]) (by kernel_rfl) (by simp) ?_
            refine AllReadyIn.cons rfl (fun K hK => ?_) ?_
            · go_simp
              refine hK _ _ ?_
              clear hK K
              refine wpAnyIn_take (i := 3) (v := .int .i64 (va : Int)) rfl rfl (by kernel_rfl) (by kernel_rfl) (by kernel_rfl) (fun _ _ _ h => h) ⟨Or.inl ⟨by rfl, fun w => by go_simp⟩, fun _ => rfl⟩ ?_
              refine wpAnyIn_take (i := 6) (v := .int .i64 (ma : Int)) rfl rfl (by kernel_rfl) (by kernel_rfl) (by kernel_rfl) (fun _ _ _ h => h) ⟨Or.inl ⟨by rfl, fun w => by go_simp⟩, fun _ => rfl⟩ ?_
              refine wpAnyIn_ready (rs := [10]) (by kernel_rfl) (by simp) ?_
              refine AllReadyIn.cons rfl (fun K hK => ?_) ?_
              · go_simp
                refine hK _ _ ?_
                clear hK K
                refine wpAnyIn_take (i := 11) (v := .int .i64 ((l : Int) + 1)) rfl rfl (by kernel_rfl) (by kernel_rfl) (by kernel_rfl) (fun _ _ _ h => h) ⟨Or.inl ⟨by rfl, fun w => by go_simp⟩, fun _ => rfl⟩ ?_
                refine wpAnyIn_take (i := 12) (v := .int .i64 (mb : Int)) rfl rfl (by kernel_rfl) (by kernel_rfl) (by kernel_rfl) (fun _ _ _ h => h) ⟨Or.inl ⟨by rfl, fun w => by go_simp⟩, fun _ => rfl⟩ ?_
                refine wpAnyIn_ready (rs := [13]) (by kernel_rfl) (by simp) ?_
                refine AllReadyIn.cons rfl (fun K hK => ?_) AllReadyIn.nil
                go_simp
                refine hR.mono ?_
                rintro e W3 (⟨rfl, hJ3, hk3⟩ | ⟨rfl, hx3⟩)
                · refine hK _ _ ?_
                  refine wpAnyIn_ready (rs := [14]) (by kernel_rfl) (by simp) ?_
                  refine AllReadyIn.cons rfl (fun K2 hK2 => ?_) AllReadyIn.nil
                  go_simp
                  exact hK2 _ _ (wpAnyIn_done (by kernel_rfl) (.inl ⟨rfl, hJ3, hk3⟩) _)
                · refine hK _ _ ?_
                  refine wpAnyIn_ready (rs := [14]) (by kernel_rfl) (by simp) ?_
                  refine AllReadyIn.cons rfl (fun K2 hK2 => ?_) AllReadyIn.nil
                  go_simp
                  exact hK2 _ _ (wpAnyIn_done (by kernel_rfl) (.inr ⟨rfl, hx3⟩) _)
              exact AllReadyIn.nil
            refine AllReadyIn.cons rfl (fun K hK => ?_) ?_
            · go_simp
              refine hK _ _ ?_
              clear hK K
              refine wpAnyIn_take (i := 11) (v := .int .i64 ((l : Int) + 1)) rfl rfl (by kernel_rfl) (by kernel_rfl) (by kernel_rfl) (fun _ _ _ h => h) ⟨Or.inl ⟨by rfl, fun w => by go_simp⟩, fun _ => rfl⟩ ?_
              refine wpAnyIn_take (i := 12) (v := .int .i64 (mb : Int)) rfl rfl (by kernel_rfl) (by kernel_rfl) (by kernel_rfl) (fun _ _ _ h => h) ⟨Or.inl ⟨by rfl, fun w => by go_simp⟩, fun _ => rfl⟩ ?_
              refine wpAnyIn_ready (rs := [2]) (by kernel_rfl) (by simp) ?_
              refine AllReadyIn.cons rfl (fun K hK => ?_) ?_
              · go_simp
                refine hK _ _ ?_
                clear hK K
                refine wpAnyIn_take (i := 3) (v := .int .i64 (va : Int)) rfl rfl (by kernel_rfl) (by kernel_rfl) (by kernel_rfl) (fun _ _ _ h => h) ⟨Or.inl ⟨by rfl, fun w => by go_simp⟩, fun _ => rfl⟩ ?_
                refine wpAnyIn_take (i := 6) (v := .int .i64 (ma : Int)) rfl rfl (by kernel_rfl) (by kernel_rfl) (by kernel_rfl) (fun _ _ _ h => h) ⟨Or.inl ⟨by rfl, fun w => by go_simp⟩, fun _ => rfl⟩ ?_
                refine wpAnyIn_ready (rs := [13]) (by kernel_rfl) (by simp) ?_
                refine AllReadyIn.cons rfl (fun K hK => ?_) AllReadyIn.nil
                go_simp
                refine hR.mono ?_
                rintro e W3 (⟨rfl, hJ3, hk3⟩ | ⟨rfl, hx3⟩)
                · refine hK _ _ ?_
                  refine wpAnyIn_ready (rs := [14]) (by kernel_rfl) (by simp) ?_
                  refine AllReadyIn.cons rfl (fun K2 hK2 => ?_) AllReadyIn.nil
                  go_simp
                  exact hK2 _ _ (wpAnyIn_done (by kernel_rfl) (.inl ⟨rfl, hJ3, hk3⟩) _)
                · refine hK _ _ ?_
                  refine wpAnyIn_ready (rs := [14]) (by kernel_rfl) (by simp) ?_
                  refine AllReadyIn.cons rfl (fun K2 hK2 => ?_) AllReadyIn.nil
                  go_simp
                  exact hK2 _ _ (wpAnyIn_done (by kernel_rfl) (.inr ⟨rfl, hx3⟩) _)
              exact AllReadyIn.nil
            exact AllReadyIn.nil
          refine AllReadyIn.cons rfl (fun K hK => ?_) ?_
          · go_simp
            refine hK _ _ ?_
            clear hK K
            refine wpAnyIn_take (i := 11) (v := .int .i64 ((l : Int) + 1)) rfl rfl (by kernel_rfl) (by kernel_rfl) (by kernel_rfl) (fun _ _ _ h => h) ⟨Or.inl ⟨by rfl, fun w => by go_simp⟩, fun _ => rfl⟩ ?_
            refine wpAnyIn_take (i := 12) (v := .int .i64 (mb : Int)) rfl rfl (by kernel_rfl) (by kernel_rfl) (by kernel_rfl) (fun _ _ _ h => h) ⟨Or.inl ⟨by rfl, fun w => by go_simp⟩, fun _ => rfl⟩ ?_
            refine wpAnyIn_ready (rs := [2, 4]) (by kernel_rfl) (by simp) ?_
            refine AllReadyIn.cons rfl (fun K hK => ?_) ?_
            · go_simp
              refine hK _ _ ?_
              clear hK K
              refine wpAnyIn_take (i := 3) (v := .int .i64 (va : Int)) rfl rfl (by kernel_rfl) (by kernel_rfl) (by kernel_rfl) (fun _ _ _ h => h) ⟨Or.inl ⟨by rfl, fun w => by go_simp⟩, fun _ => rfl⟩ ?_
              refine wpAnyIn_ready (rs := [4]) (by kernel_rfl) (by simp) ?_
              refine AllReadyIn.cons rfl (fun K hK => ?_) ?_
              · go_simp
                refine hK _ _ ?_
                clear hK K
                refine wpAnyIn_take (i := 5) (v := .int .i64 ((l : Int) + 1)) rfl rfl (by kernel_rfl) (by kernel_rfl) (by kernel_rfl) (fun _ _ _ h => h) ⟨Or.inl ⟨by rfl, fun w => by go_simp⟩, fun _ => rfl⟩ ?_
                refine wpAnyIn_take (i := 6) (v := .int .i64 (ma : Int)) rfl rfl (by kernel_rfl) (by kernel_rfl) (by kernel_rfl) (fun _ _ _ h => h) ⟨Or.inl ⟨by rfl, fun w => by go_simp⟩, fun _ => rfl⟩ ?_
                refine wpAnyIn_ready (rs := [13]) (by kernel_rfl) (by simp) ?_
                refine AllReadyIn.cons rfl (fun K hK => ?_) AllReadyIn.nil
                go_simp
                refine hR.mono ?_
                rintro e W3 (⟨rfl, hJ3, hk3⟩ | ⟨rfl, hx3⟩)
                · refine hK _ _ ?_
                  refine wpAnyIn_ready (rs := [14]) (by kernel_rfl) (by simp) ?_
                  refine AllReadyIn.cons rfl (fun K2 hK2 => ?_) AllReadyIn.nil
                  go_simp
                  exact hK2 _ _ (wpAnyIn_done (by kernel_rfl) (.inl ⟨rfl, hJ3, hk3⟩) _)
                · refine hK _ _ ?_
                  refine wpAnyIn_ready (rs := [14]) (by kernel_rfl) (by simp) ?_
                  refine AllReadyIn.cons rfl (fun K2 hK2 => ?_) AllReadyIn.nil
                  go_simp
                  exact hK2 _ _ (wpAnyIn_done (by kernel_rfl) (.inr ⟨rfl, hx3⟩) _)
              exact AllReadyIn.nil
            refine AllReadyIn.cons rfl (fun K hK => ?_) ?_
            · go_simp
              refine hK _ _ ?_
              clear hK K
              refine wpAnyIn_take (i := 5) (v := .int .i64 ((l : Int) + 1)) rfl rfl (by kernel_rfl) (by kernel_rfl) (by kernel_rfl) (fun _ _ _ h => h) ⟨Or.inl ⟨by rfl, fun w => by go_simp⟩, fun _ => rfl⟩ ?_
              refine wpAnyIn_ready (rs := [2]) (by kernel_rfl) (by simp) ?_
              refine AllReadyIn.cons rfl (fun K hK => ?_) ?_
              · go_simp
                refine hK _ _ ?_
                clear hK K
                refine wpAnyIn_take (i := 3) (v := .int .i64 (va : Int)) rfl rfl (by kernel_rfl) (by kernel_rfl) (by kernel_rfl) (fun _ _ _ h => h) ⟨Or.inl ⟨by rfl, fun w => by go_simp⟩, fun _ => rfl⟩ ?_
                refine wpAnyIn_take (i := 6) (v := .int .i64 (ma : Int)) rfl rfl (by kernel_rfl) (by kernel_rfl) (by kernel_rfl) (fun _ _ _ h => h) ⟨Or.inl ⟨by rfl, fun w => by go_simp⟩, fun _ => rfl⟩ ?_
                refine wpAnyIn_ready (rs := [13]) (by kernel_rfl) (by simp) ?_
                refine AllReadyIn.cons rfl (fun K hK => ?_) AllReadyIn.nil
                go_simp
                refine hR.mono ?_
                rintro e W3 (⟨rfl, hJ3, hk3⟩ | ⟨rfl, hx3⟩)
                · refine hK _ _ ?_
                  refine wpAnyIn_ready (rs := [14]) (by kernel_rfl) (by simp) ?_
                  refine AllReadyIn.cons rfl (fun K2 hK2 => ?_) AllReadyIn.nil
                  go_simp
                  exact hK2 _ _ (wpAnyIn_done (by kernel_rfl) (.inl ⟨rfl, hJ3, hk3⟩) _)
                · refine hK _ _ ?_
                  refine wpAnyIn_ready (rs := [14]) (by kernel_rfl) (by simp) ?_
                  refine AllReadyIn.cons rfl (fun K2 hK2 => ?_) AllReadyIn.nil
                  go_simp
                  exact hK2 _ _ (wpAnyIn_done (by kernel_rfl) (.inr ⟨rfl, hx3⟩) _)
              exact AllReadyIn.nil
            exact AllReadyIn.nil
          exact AllReadyIn.nil
        refine AllReadyIn.cons rfl (fun K hK => ?_) ?_
        · go_simp
          refine hK _ _ ?_
          clear hK K
          refine wpAnyIn_take (i := 11) (v := .int .i64 ((l : Int) + 1)) rfl rfl (by kernel_rfl) (by kernel_rfl) (by kernel_rfl) (fun _ _ _ h => h) ⟨Or.inl ⟨by rfl, fun w => by go_simp⟩, fun _ => rfl⟩ ?_
          refine wpAnyIn_ready (rs := [2, 4, 8]) (by kernel_rfl) (by simp) ?_
          refine AllReadyIn.cons rfl (fun K hK => ?_) ?_
          · go_simp
            refine hK _ _ ?_
            clear hK K
            refine wpAnyIn_take (i := 3) (v := .int .i64 (va : Int)) rfl rfl (by kernel_rfl) (by kernel_rfl) (by kernel_rfl) (fun _ _ _ h => h) ⟨Or.inl ⟨by rfl, fun w => by go_simp⟩, fun _ => rfl⟩ ?_
            refine wpAnyIn_ready (rs := [4, 8]) (by kernel_rfl) (by simp) ?_
            refine AllReadyIn.cons rfl (fun K hK => ?_) ?_
            · go_simp
              refine hK _ _ ?_
              clear hK K
              refine wpAnyIn_take (i := 5) (v := .int .i64 ((l : Int) + 1)) rfl rfl (by kernel_rfl) (by kernel_rfl) (by kernel_rfl) (fun _ _ _ h => h) ⟨Or.inl ⟨by rfl, fun w => by go_simp⟩, fun _ => rfl⟩ ?_
              refine wpAnyIn_take (i := 6) (v := .int .i64 (ma : Int)) rfl rfl (by kernel_rfl) (by kernel_rfl) (by kernel_rfl) (fun _ _ _ h => h) ⟨Or.inl ⟨by rfl, fun w => by go_simp⟩, fun _ => rfl⟩ ?_
              refine wpAnyIn_ready (rs := [8]) (by kernel_rfl) (by simp) ?_
              refine AllReadyIn.cons rfl (fun K hK => ?_) ?_
              · go_simp
                refine hK _ _ ?_
                clear hK K
                refine wpAnyIn_take (i := 9) (v := .int .i64 (vb : Int)) rfl rfl (by kernel_rfl) (by kernel_rfl) (by kernel_rfl) (fun _ _ _ h => h) ⟨Or.inl ⟨by rfl, fun w => by go_simp⟩, fun _ => rfl⟩ ?_
                refine wpAnyIn_take (i := 12) (v := .int .i64 (mb : Int)) rfl rfl (by kernel_rfl) (by kernel_rfl) (by kernel_rfl) (fun _ _ _ h => h) ⟨Or.inl ⟨by rfl, fun w => by go_simp⟩, fun _ => rfl⟩ ?_
                refine wpAnyIn_ready (rs := [13]) (by kernel_rfl) (by simp) ?_
                refine AllReadyIn.cons rfl (fun K hK => ?_) AllReadyIn.nil
                go_simp
                refine hR.mono ?_
                rintro e W3 (⟨rfl, hJ3, hk3⟩ | ⟨rfl, hx3⟩)
                · refine hK _ _ ?_
                  refine wpAnyIn_ready (rs := [14]) (by kernel_rfl) (by simp) ?_
                  refine AllReadyIn.cons rfl (fun K2 hK2 => ?_) AllReadyIn.nil
                  go_simp
                  exact hK2 _ _ (wpAnyIn_done (by kernel_rfl) (.inl ⟨rfl, hJ3, hk3⟩) _)
                · refine hK _ _ ?_
                  refine wpAnyIn_ready (rs := [14]) (by kernel_rfl) (by simp) ?_
                  refine AllReadyIn.cons rfl (fun K2 hK2 => ?_) AllReadyIn.nil
                  go_simp
                  exact hK2 _ _ (wpAnyIn_done (by kernel_rfl) (.inr ⟨rfl, hx3⟩) _)
              exact AllReadyIn.nil
            refine AllReadyIn.cons rfl (fun K hK => ?_) ?_
            · go_simp
              refine hK _ _ ?_
              clear hK K
              refine wpAnyIn_take (i := 9) (v := .int .i64 (vb : Int)) rfl rfl (by kernel_rfl) (by kernel_rfl) (by kernel_rfl) (fun _ _ _ h => h) ⟨Or.inl ⟨by rfl, fun w => by go_simp⟩, fun _ => rfl⟩ ?_
              refine wpAnyIn_take (i := 12) (v := .int .i64 (mb : Int)) rfl rfl (by kernel_rfl) (by kernel_rfl) (by kernel_rfl) (fun _ _ _ h => h) ⟨Or.inl ⟨by rfl, fun w => by go_simp⟩, fun _ => rfl⟩ ?_
              refine wpAnyIn_ready (rs := [4]) (by kernel_rfl) (by simp) ?_
              refine AllReadyIn.cons rfl (fun K hK => ?_) ?_
              · go_simp
                refine hK _ _ ?_
                clear hK K
                refine wpAnyIn_take (i := 5) (v := .int .i64 ((l : Int) + 1)) rfl rfl (by kernel_rfl) (by kernel_rfl) (by kernel_rfl) (fun _ _ _ h => h) ⟨Or.inl ⟨by rfl, fun w => by go_simp⟩, fun _ => rfl⟩ ?_
                refine wpAnyIn_take (i := 6) (v := .int .i64 (ma : Int)) rfl rfl (by kernel_rfl) (by kernel_rfl) (by kernel_rfl) (fun _ _ _ h => h) ⟨Or.inl ⟨by rfl, fun w => by go_simp⟩, fun _ => rfl⟩ ?_
                refine wpAnyIn_ready (rs := [13]) (by kernel_rfl) (by simp) ?_
                refine AllReadyIn.cons rfl (fun K hK => ?_) AllReadyIn.nil
                go_simp
                refine hR.mono ?_
                rintro e W3 (⟨rfl, hJ3, hk3⟩ | ⟨rfl, hx3⟩)
                · refine hK _ _ ?_
                  refine wpAnyIn_ready (rs := [14]) (by kernel_rfl) (by simp) ?_
                  refine AllReadyIn.cons rfl (fun K2 hK2 => ?_) AllReadyIn.nil
                  go_simp
                  exact hK2 _ _ (wpAnyIn_done (by kernel_rfl) (.inl ⟨rfl, hJ3, hk3⟩) _)
                · refine hK _ _ ?_
                  refine wpAnyIn_ready (rs := [14]) (by kernel_rfl) (by simp) ?_
                  refine AllReadyIn.cons rfl (fun K2 hK2 => ?_) AllReadyIn.nil
                  go_simp
                  exact hK2 _ _ (wpAnyIn_done (by kernel_rfl) (.inr ⟨rfl, hx3⟩) _)
              exact AllReadyIn.nil
            exact AllReadyIn.nil
          refine AllReadyIn.cons rfl (fun K hK => ?_) ?_
          · go_simp
            refine hK _ _ ?_
            clear hK K
            refine wpAnyIn_take (i := 5) (v := .int .i64 ((l : Int) + 1)) rfl rfl (by kernel_rfl) (by kernel_rfl) (by kernel_rfl) (fun _ _ _ h => h) ⟨Or.inl ⟨by rfl, fun w => by go_simp⟩, fun _ => rfl⟩ ?_
            refine wpAnyIn_ready (rs := [2, 8]) (by kernel_rfl) (by simp) ?_
            refine AllReadyIn.cons rfl (fun K hK => ?_) ?_
            · go_simp
              refine hK _ _ ?_
              clear hK K
              refine wpAnyIn_take (i := 3) (v := .int .i64 (va : Int)) rfl rfl (by kernel_rfl) (by kernel_rfl) (by kernel_rfl) (fun _ _ _ h => h) ⟨Or.inl ⟨by rfl, fun w => by go_simp⟩, fun _ => rfl⟩ ?_
              refine wpAnyIn_take (i := 6) (v := .int .i64 (ma : Int)) rfl rfl (by kernel_rfl) (by kernel_rfl) (by kernel_rfl) (fun _ _ _ h => h) ⟨Or.inl ⟨by rfl, fun w => by go_simp⟩, fun _ => rfl⟩ ?_
              refine wpAnyIn_ready (rs := [8]) (by kernel_rfl) (by simp) ?_
              refine AllReadyIn.cons rfl (fun K hK => ?_) ?_
              · go_simp
                refine hK _ _ ?_
                clear hK K
                refine wpAnyIn_take (i := 9) (v := .int .i64 (vb : Int)) rfl rfl (by kernel_rfl) (by kernel_rfl) (by kernel_rfl) (fun _ _ _ h => h) ⟨Or.inl ⟨by rfl, fun w => by go_simp⟩, fun _ => rfl⟩ ?_
                refine wpAnyIn_take (i := 12) (v := .int .i64 (mb : Int)) rfl rfl (by kernel_rfl) (by kernel_rfl) (by kernel_rfl) (fun _ _ _ h => h) ⟨Or.inl ⟨by rfl, fun w => by go_simp⟩, fun _ => rfl⟩ ?_
                refine wpAnyIn_ready (rs := [13]) (by kernel_rfl) (by simp) ?_
                refine AllReadyIn.cons rfl (fun K hK => ?_) AllReadyIn.nil
                go_simp
                refine hR.mono ?_
                rintro e W3 (⟨rfl, hJ3, hk3⟩ | ⟨rfl, hx3⟩)
                · refine hK _ _ ?_
                  refine wpAnyIn_ready (rs := [14]) (by kernel_rfl) (by simp) ?_
                  refine AllReadyIn.cons rfl (fun K2 hK2 => ?_) AllReadyIn.nil
                  go_simp
                  exact hK2 _ _ (wpAnyIn_done (by kernel_rfl) (.inl ⟨rfl, hJ3, hk3⟩) _)
                · refine hK _ _ ?_
                  refine wpAnyIn_ready (rs := [14]) (by kernel_rfl) (by simp) ?_
                  refine AllReadyIn.cons rfl (fun K2 hK2 => ?_) AllReadyIn.nil
                  go_simp
                  exact hK2 _ _ (wpAnyIn_done (by kernel_rfl) (.inr ⟨rfl, hx3⟩) _)
              exact AllReadyIn.nil
            refine AllReadyIn.cons rfl (fun K hK => ?_) ?_
            · go_simp
              refine hK _ _ ?_
              clear hK K
              refine wpAnyIn_take (i := 9) (v := .int .i64 (vb : Int)) rfl rfl (by kernel_rfl) (by kernel_rfl) (by kernel_rfl) (fun _ _ _ h => h) ⟨Or.inl ⟨by rfl, fun w => by go_simp⟩, fun _ => rfl⟩ ?_
              refine wpAnyIn_take (i := 12) (v := .int .i64 (mb : Int)) rfl rfl (by kernel_rfl) (by kernel_rfl) (by kernel_rfl) (fun _ _ _ h => h) ⟨Or.inl ⟨by rfl, fun w => by go_simp⟩, fun _ => rfl⟩ ?_
              refine wpAnyIn_ready (rs := [2]) (by kernel_rfl) (by simp) ?_
              refine AllReadyIn.cons rfl (fun K hK => ?_) ?_
              · go_simp
                refine hK _ _ ?_
                clear hK K
                refine wpAnyIn_take (i := 3) (v := .int .i64 (va : Int)) rfl rfl (by kernel_rfl) (by kernel_rfl) (by kernel_rfl) (fun _ _ _ h => h) ⟨Or.inl ⟨by rfl, fun w => by go_simp⟩, fun _ => rfl⟩ ?_
                refine wpAnyIn_take (i := 6) (v := .int .i64 (ma : Int)) rfl rfl (by kernel_rfl) (by kernel_rfl) (by kernel_rfl) (fun _ _ _ h => h) ⟨Or.inl ⟨by rfl, fun w => by go_simp⟩, fun _ => rfl⟩ ?_
                refine wpAnyIn_ready (rs := [13]) (by kernel_rfl) (by simp) ?_
                refine AllReadyIn.cons rfl (fun K hK => ?_) AllReadyIn.nil
                go_simp
                refine hR.mono ?_
                rintro e W3 (⟨rfl, hJ3, hk3⟩ | ⟨rfl, hx3⟩)
                · refine hK _ _ ?_
                  refine wpAnyIn_ready (rs := [14]) (by kernel_rfl) (by simp) ?_
                  refine AllReadyIn.cons rfl (fun K2 hK2 => ?_) AllReadyIn.nil
                  go_simp
                  exact hK2 _ _ (wpAnyIn_done (by kernel_rfl) (.inl ⟨rfl, hJ3, hk3⟩) _)
                · refine hK _ _ ?_
                  refine wpAnyIn_ready (rs := [14]) (by kernel_rfl) (by simp) ?_
                  refine AllReadyIn.cons rfl (fun K2 hK2 => ?_) AllReadyIn.nil
                  go_simp
                  exact hK2 _ _ (wpAnyIn_done (by kernel_rfl) (.inr ⟨rfl, hx3⟩) _)
              exact AllReadyIn.nil
            exact AllReadyIn.nil
          refine AllReadyIn.cons rfl (fun K hK => ?_) ?_
          · go_simp
            refine hK _ _ ?_
            clear hK K
            refine wpAnyIn_take (i := 9) (v := .int .i64 (vb : Int)) rfl rfl (by kernel_rfl) (by kernel_rfl) (by kernel_rfl) (fun _ _ _ h => h) ⟨Or.inl ⟨by rfl, fun w => by go_simp⟩, fun _ => rfl⟩ ?_
            refine wpAnyIn_take (i := 12) (v := .int .i64 (mb : Int)) rfl rfl (by kernel_rfl) (by kernel_rfl) (by kernel_rfl) (fun _ _ _ h => h) ⟨Or.inl ⟨by rfl, fun w => by go_simp⟩, fun _ => rfl⟩ ?_
            refine wpAnyIn_ready (rs := [2, 4]) (by kernel_rfl) (by simp) ?_
            refine AllReadyIn.cons rfl (fun K hK => ?_) ?_
            · go_simp
              refine hK _ _ ?_
              clear hK K
              refine wpAnyIn_take (i := 3) (v := .int .i64 (va : Int)) rfl rfl (by kernel_rfl) (by kernel_rfl) (by kernel_rfl) (fun _ _ _ h => h) ⟨Or.inl ⟨by rfl, fun w => by go_simp⟩, fun _ => rfl⟩ ?_
              refine wpAnyIn_ready (rs := [4]) (by kernel_rfl) (by simp) ?_
              refine AllReadyIn.cons rfl (fun K hK => ?_) ?_
              · go_simp
                refine hK _ _ ?_
                clear hK K
                refine wpAnyIn_take (i := 5) (v := .int .i64 ((l : Int) + 1)) rfl rfl (by kernel_rfl) (by kernel_rfl) (by kernel_rfl) (fun _ _ _ h => h) ⟨Or.inl ⟨by rfl, fun w => by go_simp⟩, fun _ => rfl⟩ ?_
                refine wpAnyIn_take (i := 6) (v := .int .i64 (ma : Int)) rfl rfl (by kernel_rfl) (by kernel_rfl) (by kernel_rfl) (fun _ _ _ h => h) ⟨Or.inl ⟨by rfl, fun w => by go_simp⟩, fun _ => rfl⟩ ?_
                refine wpAnyIn_ready (rs := [13]) (by kernel_rfl) (by simp) ?_
                refine AllReadyIn.cons rfl (fun K hK => ?_) AllReadyIn.nil
                go_simp
                refine hR.mono ?_
                rintro e W3 (⟨rfl, hJ3, hk3⟩ | ⟨rfl, hx3⟩)
                · refine hK _ _ ?_
                  refine wpAnyIn_ready (rs := [14]) (by kernel_rfl) (by simp) ?_
                  refine AllReadyIn.cons rfl (fun K2 hK2 => ?_) AllReadyIn.nil
                  go_simp
                  exact hK2 _ _ (wpAnyIn_done (by kernel_rfl) (.inl ⟨rfl, hJ3, hk3⟩) _)
                · refine hK _ _ ?_
                  refine wpAnyIn_ready (rs := [14]) (by kernel_rfl) (by simp) ?_
                  refine AllReadyIn.cons rfl (fun K2 hK2 => ?_) AllReadyIn.nil
                  go_simp
                  exact hK2 _ _ (wpAnyIn_done (by kernel_rfl) (.inr ⟨rfl, hx3⟩) _)
              exact AllReadyIn.nil
            refine AllReadyIn.cons rfl (fun K hK => ?_) ?_
            · go_simp
              refine hK _ _ ?_
              clear hK K
              refine wpAnyIn_take (i := 5) (v := .int .i64 ((l : Int) + 1)) rfl rfl (by kernel_rfl) (by kernel_rfl) (by kernel_rfl) (fun _ _ _ h => h) ⟨Or.inl ⟨by rfl, fun w => by go_simp⟩, fun _ => rfl⟩ ?_
              refine wpAnyIn_ready (rs := [2]) (by kernel_rfl) (by simp) ?_
              refine AllReadyIn.cons rfl (fun K hK => ?_) ?_
              · go_simp
                refine hK _ _ ?_
                clear hK K
                refine wpAnyIn_take (i := 3) (v := .int .i64 (va : Int)) rfl rfl (by kernel_rfl) (by kernel_rfl) (by kernel_rfl) (fun _ _ _ h => h) ⟨Or.inl ⟨by rfl, fun w => by go_simp⟩, fun _ => rfl⟩ ?_
                refine wpAnyIn_take (i := 6) (v := .int .i64 (ma : Int)) rfl rfl (by kernel_rfl) (by kernel_rfl) (by kernel_rfl) (fun _ _ _ h => h) ⟨Or.inl ⟨by rfl, fun w => by go_simp⟩, fun _ => rfl⟩ ?_
                refine wpAnyIn_ready (rs := [13]) (by kernel_rfl) (by simp) ?_
                refine AllReadyIn.cons rfl (fun K hK => ?_) AllReadyIn.nil
                go_simp
                refine hR.mono ?_
                rintro e W3 (⟨rfl, hJ3, hk3⟩ | ⟨rfl, hx3⟩)
                · refine hK _ _ ?_
                  refine wpAnyIn_ready (rs := [14]) (by kernel_rfl) (by simp) ?_
                  refine AllReadyIn.cons rfl (fun K2 hK2 => ?_) AllReadyIn.nil
                  go_simp
                  exact hK2 _ _ (wpAnyIn_done (by kernel_rfl) (.inl ⟨rfl, hJ3, hk3⟩) _)
                · refine hK _ _ ?_
                  refine wpAnyIn_ready (rs := [14]) (by kernel_rfl) (by simp) ?_
                  refine AllReadyIn.cons rfl (fun K2 hK2 => ?_) AllReadyIn.nil
                  go_simp
                  exact hK2 _ _ (wpAnyIn_done (by kernel_rfl) (.inr ⟨rfl, hx3⟩) _)
              exact AllReadyIn.nil
            exact AllReadyIn.nil
          exact AllReadyIn.nil
        exact AllReadyIn.nil
      · have q1' : ((m : Int) != (k : Int)) = true := by simp; omega
        have HCS2 : Hid (csOf (j + 1) fo fa fb o l k = csOf j fo fa fb o l k) := (by rw [HCS.out, if_neg q1]; simp : csOf (j + 1) fo fa fb o l k = csOf j fo fa fb o l k)
        gi_wp2
        go_roundw
        case rel => exact ⟨j + 1, rfl, by omega, hszd, hCd, by rw [HCS2.out]; exact hJd⟩
        case measure => simpa [intOf] using HM.out
    · have t1 : ¬ ((j : Int) < (n : Int)) := by omega
      obtain rfl : j = n := by omega
      gi_wp2
      go_end0
      exact ⟨⟨_, rfl⟩, .inl hJr⟩
end Go.Proofs.Ybulkcmtm
