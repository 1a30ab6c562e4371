/- (*offerTree).cover. -/
import Derived.Test.YbulkcmtmMoves
import Derived.Deep.RegionLaw
namespace Go.Proofs.Ybulkcmtm
open Go.RowKit

theorem inf75 : (Yba.prog.info? 75).map (fun i => (i.zero, i.size, i.bytes)) = some (some (.agg #[.int .i64 0, .int .i64 0]), 2, 16) := by kernel_rfl
theorem inf3' : (Yba.prog.info? 3).map (fun i => (i.zero, i.size, i.bytes)) = some (some (.int .i64 0), 1, 8) := by kernel_rfl

/-- The nodes at and under node n (of height h, its first leaf lo) that together stand for the leaves from a to b. -/
def cov : Nat → Nat → Nat → Int → Int → List Nat
  | 0, n, lo, a, b => if b ≤ a ∨ ((lo + 1 : Nat) : Int) ≤ a ∨ b ≤ (lo : Int) then [] else [n]
  | h + 1, n, lo, a, b => if b ≤ a ∨ ((lo + 2 ^ (h + 1) : Nat) : Int) ≤ a ∨ b ≤ (lo : Int) then [] else if a ≤ (lo : Int) ∧ ((lo + 2 ^ (h + 1) : Nat) : Int) ≤ b then [n]
    else cov h (2 * n) lo a b ++ cov h (2 * n + 1) (lo + 2 ^ h) a b

/-- Offer k stands at these nodes, too. -/
def Tree.stand (T : Tree) (k : Nat) (ns : List Nat) : Tree := { T with st := T.st ++ ns.map (fun m : Nat => ((k : Int), (m : Int))), sAt := T.sAt ++ ns.map (fun _ => -1) }

theorem stand_nil (T : Tree) (k : Nat) : T.stand k [] = T := by simp [Tree.stand]
theorem stand_append (T : Tree) (k : Nat) (a b : List Nat) : (T.stand k a).stand k b = T.stand k (a ++ b) := by simp [Tree.stand]

section
variable {base tb : Nat} {T : Tree} {l : Lay}

theorem tb_set {w W : World} {i : Nat} {v' : Value} (h : W.heap[tb]? = w.heap[tb]?) (c : Array Value) (hc : w.heap[tb]? = some (.cells c 61 (0, 0))) : (W.setCell ⟨tb, i, none⟩ v').heap[tb]? = some (.cells (c.setIfInBounds i v') 61 (0, 0)) := by
  show (W.heap.modify tb _)[tb]? = _
  rw [Array.getElem?_modify, if_pos rfl, h, hc]
  simp

theorem TS.appS {W w1 : World} {o : Obj} {g cap k n : Nat} (h : TS W base tb T l) (hg : (W.alloc o).grownBy w1 l.vS.ownBlock)
    (ho : w1.ownsRow base 75 2 (.slice (some ⟨g, 0, none⟩) (T.st.length + 1) cap) (T.st.length + 1) (pairs T.st ++ [.int .i64 k, .int .i64 n])) (hat : l.vS.ownBlock = some g ∨ g = W.heap.size + 1) :
    TS (w1.setCell ⟨tb, 7, none⟩ (.slice (some ⟨g, 0, none⟩) (T.st.length + 1) cap)) base tb { T with st := T.st ++ [((k : Int), (n : Int))] } { l with vS := .slice (some ⟨g, 0, none⟩) (T.st.length + 1) cap } ∧
      Moves tb l W { l with vS := .slice (some ⟨g, 0, none⟩) (T.st.length + 1) cap } (w1.setCell ⟨tb, 7, none⟩ (.slice (some ⟨g, 0, none⟩) (T.st.length + 1) cap)) := by
  have ht : Touch (fun j => l.vS.ownBlock = some j ∨ j = tb) W (w1.setCell ⟨tb, 7, none⟩ (.slice (some ⟨g, 0, none⟩) (T.st.length + 1) cap)) :=
    ((((Touch.refl _ W).trans (Touch.below ((Below.refl _ _).alloc (Nat.le_refl _) o))).grown hg (fun k e => .inl e)).set (p := ⟨tb, 7, none⟩) (.inr rfl) _)
  have htb : w1.heap[tb]? = W.heap[tb]? := (hg.block tb (by rw [World.size_alloc]; exact Nat.lt_succ_of_lt h.tb_lt) (fun e => own_tb h.rS h.tt (by decide) e.symm)).trans (Below.heap_alloc W o tb h.tb_lt)
  have hv : (Value.slice (some ⟨g, 0, none⟩) (T.st.length + 1) cap).ownBlock = l.vS.ownBlock ∨ ∃ g', (Value.slice (some ⟨g, 0, none⟩) (T.st.length + 1) cap).ownBlock = some g' ∧ W.heap.size ≤ g' := by
    rcases hat with e | e
    · exact .inl e.symm
    · exact .inr ⟨g, rfl, by omega⟩
  obtain ⟨c, hc⟩ := h.tt
  have eq : w1.heap[tb]? = some (.cells c 61 (0, 0)) := htb.trans hc
  refine ⟨h.turnS ht (tb_set htb) ?_, moves_S ht hv⟩
  rw [pairs_append]
  simp only [List.length_append, List.length_cons, List.length_nil]
  exact own_other ho (own_ne ho eq (by decide)) _

theorem TS.appA {W w1 : World} {o : Obj} {g cap : Nat} (h : TS W base tb T l) (hg : (W.alloc o).grownBy w1 l.vSA.ownBlock)
    (ho : w1.ownsRow base 3 1 (.slice (some ⟨g, 0, none⟩) (T.sAt.length + 1) cap) (T.sAt.length + 1) (ints T.sAt ++ [.int .i64 (-1)])) (hat : l.vSA.ownBlock = some g ∨ g = W.heap.size + 1) :
    TS (w1.setCell ⟨tb, 8, none⟩ (.slice (some ⟨g, 0, none⟩) (T.sAt.length + 1) cap)) base tb { T with sAt := T.sAt ++ [-1] } { l with vSA := .slice (some ⟨g, 0, none⟩) (T.sAt.length + 1) cap } ∧
      Moves tb l W { l with vSA := .slice (some ⟨g, 0, none⟩) (T.sAt.length + 1) cap } (w1.setCell ⟨tb, 8, none⟩ (.slice (some ⟨g, 0, none⟩) (T.sAt.length + 1) cap)) := by
  have ht : Touch (fun j => l.vSA.ownBlock = some j ∨ j = tb) W (w1.setCell ⟨tb, 8, none⟩ (.slice (some ⟨g, 0, none⟩) (T.sAt.length + 1) cap)) :=
    ((((Touch.refl _ W).trans (Touch.below ((Below.refl _ _).alloc (Nat.le_refl _) o))).grown hg (fun k e => .inl e)).set (p := ⟨tb, 8, none⟩) (.inr rfl) _)
  have htb : w1.heap[tb]? = W.heap[tb]? := (hg.block tb (by rw [World.size_alloc]; exact Nat.lt_succ_of_lt h.tb_lt) (fun e => own_tb h.rSA h.tt (by decide) e.symm)).trans (Below.heap_alloc W o tb h.tb_lt)
  have hv : (Value.slice (some ⟨g, 0, none⟩) (T.sAt.length + 1) cap).ownBlock = l.vSA.ownBlock ∨ ∃ g', (Value.slice (some ⟨g, 0, none⟩) (T.sAt.length + 1) cap).ownBlock = some g' ∧ W.heap.size ≤ g' := by
    rcases hat with e | e
    · exact .inl e.symm
    · exact .inr ⟨g, rfl, by omega⟩
  obtain ⟨c, hc⟩ := h.tt
  have eq : w1.heap[tb]? = some (.cells c 61 (0, 0)) := htb.trans hc
  refine ⟨h.turnA ht (tb_set htb) ?_ hv, moves_A ht hv⟩
  have e : ints (T.sAt ++ [-1]) = ints T.sAt ++ [.int .i64 (-1)] := by simp [ints]
  rw [e]
  simp only [List.length_append, List.length_cons, List.length_nil]
  exact own_other ho (own_ne ho eq (by decide)) _

theorem slice_form {w : World} {size n : Nat} {e : TypeId} {v : Value} {xs : List Value} (h : w.ownsRow base e size v n xs) : ∃ a cap, v = .slice a n cap := by
  rcases h.2 with ⟨hv, h0⟩ | ⟨_, _, _, hv, _⟩
  · exact ⟨none, 0, by rw [hv, h0]⟩
  · exact ⟨_, _, hv⟩

theorem tb_frozen {w : World} (h : ∃ c, w.heap[tb]? = some (.cells c 61 (0, 0))) (o : Nat) : w.frozen? ⟨tb, o, none⟩ = false := by
  obtain ⟨c, hc⟩ := h; simp [World.frozen?, hc]

set_option maxHeartbeats 4000000 in
set_option maxRecDepth 100000 in
/-- Node n is wanted whole. -/
theorem cover_hit (w : World) (h : TS w base tb T l) (n lo hi k : Nat) (a b : Int) (h1 : ¬ b ≤ a) (h2 : ¬ (hi : Int) ≤ a) (h3 : ¬ b ≤ (lo : Int)) (h4 : a ≤ (lo : Int)) (h5 : (hi : Int) ≤ b) (hm : T.st.length ≤ 90000) (hm2 : T.sAt.length ≤ 90000) :
    Calls Yba.prog 20 #[.pointer (some ⟨tb, 0, none⟩), .int .i64 n, .int .i64 lo, .int .i64 hi, .int .i64 a, .int .i64 b, .int .i64 k] w fun e w' => (∃ v, e = .returned v) ∧
      ∃ l', TS w' base tb (T.stand k [n]) l' ∧ Moves tb l w l' w' := by
  obtain ⟨i75, hi75, hz1, hz2, hz3⟩ := info_parts inf75
  obtain ⟨i3, hi3, hy1, hy2, hy3⟩ := info_parts inf3'
  obtain ⟨aS, cS, hS⟩ := slice_form h.rS
  obtain ⟨aA, cA, hA⟩ := slice_form h.rSA
  have rS := h.rS
  have rSA := h.rSA
  have c7 := h.c7
  have fz := tb_frozen h.tt 7
  have hbb : base ≤ w.heap.size := Nat.le_trans h.lo (Nat.le_of_lt h.tb_lt)
  have htb := h.tb_lt
  have hnS := own_tb h.rS h.tt (by decide)
  have hnA := own_tb h.rSA h.tt (by decide)
  rw [hS] at rS c7
  have HS : Hid (l.vS = .slice aS T.st.length cS) := hS
  have HA : Hid (l.vSA = .slice aA T.sAt.length cA) := hA
  clear hS hA
  go_enter Yba.func20, Yba.ntmps20
  go_upto_region 3 with (at_builtin; refine wpList_append_lies _ rfl (.tmp 40) (.tmp 44) 59 rfl base 75 i75 _ 2 16 Yba.underlying59 hi75 hz1 hz2 hz3 rfl (by decide) _ _ _ rfl (rS.alloc _) ⟨w.heap.size, 0, none⟩ 1 1 [.int .i64 k, .int .i64 n] rfl rfl (World.news_of_block (cs := #[.int .i64 k, .int .i64 n]) (t := 75) (fr := (0, 0)) (heap_alloc_new w _)) (by simp [Value.oneCell']) (by omega) (by unfold maxLen; omega) (by omega) (by simp; omega) (w.heap.size + 1) (by simp) ?_; intro gS cS' w1 ho1 hg1 hat1 hlt1; have f1 : w1.cell? ⟨tb, 7, none⟩ = some (.slice aS T.st.length cS) := (World.cell?_of_block (a := ⟨tb, 7, none⟩) (hg1.block tb (by simp; omega) (fun e => hnS (by rw [HS.out]; exact e.symm)))).trans (by go_simp); have f2 : w1.frozen? ⟨tb, 7, none⟩ = false := (World.frozen?_of_block (a := ⟨tb, 7, none⟩) (hg1.block tb (by simp; omega) (fun e => hnS (by rw [HS.out]; exact e.symm)))).trans (by go_simp))
  rw [← HS.out] at hg1 hat1
  obtain ⟨hT1, hM1⟩ := h.appS hg1 ho1 hat1
  have rSA1 := hT1.rSA
  have c81 := hT1.c8
  have fz1 := tb_frozen hT1.tt 8
  have htb1 := hT1.tb_lt
  have lt1 : w.heap.size ≤ (w1.setCell ⟨tb, 7, none⟩ (.slice (some ⟨gS, 0, none⟩) (T.st.length + 1) cS')).heap.size := hM1.touch.size
  simp only [] at rSA1 c81
  rw [HA.out] at rSA1 c81
  generalize w1.setCell ⟨tb, 7, none⟩ (.slice (some ⟨gS, 0, none⟩) (T.st.length + 1) cS') = W1 at *
  clear hg1 hat1 f1 f2 ho1 hlt1 c7 fz rS rSA
  go_wp2_with (at_builtin; refine wpList_append_lies _ rfl (.tmp 52) (.tmp 53) 36 rfl base 3 i3 _ 1 8 Yba.underlying36 hi3 hy1 hy2 hy3 rfl (by decide) _ _ _ rfl (rSA1.alloc _) ⟨W1.heap.size, 0, none⟩ 1 1 [.int .i64 (-1)] rfl rfl (World.news_of_block (cs := #[.int .i64 (-1)]) (t := 3) (fr := (0, 0)) (heap_alloc_new W1 _)) (by simp [Value.oneCell']) (by omega) (by unfold maxLen; omega) (by omega) (by simp; omega) (W1.heap.size + 1) (by simp) ?_; intro gA cA' w2 ho2 hg2 hat2 hlt2; have f1 : w2.cell? ⟨tb, 8, none⟩ = some (.slice aA T.sAt.length cA) := (World.cell?_of_block (a := ⟨tb, 8, none⟩) (hg2.block tb (by simp; omega) (fun e => hnA (by rw [HA.out]; exact e.symm)))).trans (by go_simp); have f2 : w2.frozen? ⟨tb, 8, none⟩ = false := (World.frozen?_of_block (a := ⟨tb, 8, none⟩) (hg2.block tb (by simp; omega) (fun e => hnA (by rw [HA.out]; exact e.symm)))).trans (by go_simp))
  refine bodyPost_ret (results_none rfl _ _ _) rfl ?_
  rw [← HA.out] at hg2 hat2
  obtain ⟨hT2, hM2⟩ := hT1.appA hg2 ho2 hat2
  exact ⟨⟨_, rfl⟩, _, hT2, hM1.trans hM2⟩

set_option maxHeartbeats 1000000 in
set_option maxRecDepth 100000 in
/-- Node n stands for none of the leaves. -/
theorem cover_out (w : World) (n lo hi k : Nat) (a b : Int) (h : b ≤ a ∨ (hi : Int) ≤ a ∨ b ≤ (lo : Int)) :
    Calls Yba.prog 20 #[.pointer (some ⟨tb, 0, none⟩), .int .i64 n, .int .i64 lo, .int .i64 hi, .int .i64 a, .int .i64 b, .int .i64 k] w fun e w' => (∃ v, e = .returned v) ∧ w' = w := by
  by_cases h1 : b ≤ a
  · clear h
    go_enter Yba.func20, Yba.ntmps20
    go_wp2
    refine bodyPost_ret (results_none rfl _ _ _) rfl ?_
    exact ⟨⟨_, rfl⟩, rfl⟩
  · by_cases h2 : (hi : Int) ≤ a
    · clear h
      go_enter Yba.func20, Yba.ntmps20
      go_wp2
      refine bodyPost_ret (results_none rfl _ _ _) rfl ?_
      exact ⟨⟨_, rfl⟩, rfl⟩
    · have h3 : b ≤ (lo : Int) := by omega
      clear h
      go_enter Yba.func20, Yba.ntmps20
      go_wp2
      refine bodyPost_ret (results_none rfl _ _ _) rfl ?_
      exact ⟨⟨_, rfl⟩, rfl⟩

theorem cov_len (h n lo : Nat) (a b : Int) : (cov h n lo a b).length ≤ 2 ^ h := by
  induction h generalizing n lo with
  | zero => unfold cov; split <;> simp
  | succ h ih =>
    unfold cov
    split
    · simp
    · split
      · simp; exact Nat.one_le_two_pow
      · rw [List.length_append, Nat.pow_succ]
        have := ih (2 * n) lo
        have := ih (2 * n + 1) (lo + 2 ^ h)
        omega

set_option maxHeartbeats 4000000 in
set_option maxRecDepth 100000 in
theorem cover20 (k : Nat) (a b : Int) (ht : Nat) : ∀ (w : World) (T : Tree) (l : Lay) (n lo hi : Nat), TS w base tb T l → hi = lo + 2 ^ ht → ht ≤ 4 → hi ≤ 1000000 → (n + 1) * 2 ^ ht ≤ 1000000 → T.st.length + 2 ^ ht ≤ 90000 → T.sAt.length + 2 ^ ht ≤ 90000 →
    Calls Yba.prog 20 #[.pointer (some ⟨tb, 0, none⟩), .int .i64 n, .int .i64 lo, .int .i64 hi, .int .i64 a, .int .i64 b, .int .i64 k] w fun e w' => (∃ v, e = .returned v) ∧
      ∃ l', TS w' base tb (T.stand k (cov ht n lo a b)) l' ∧ Moves tb l w l' w' := by
  induction ht with
  | zero =>
    intro w T l n lo hi h ehi _ hlo hn hm hm2
    by_cases hout : b ≤ a ∨ (hi : Int) ≤ a ∨ b ≤ (lo : Int)
    · have e : cov 0 n lo a b = [] := by unfold cov; rw [if_pos (by subst ehi; simpa using hout)]
      rw [e]
      refine (cover_out w n lo hi k a b hout).mono ?_
      rintro e w' ⟨h1, rfl⟩
      exact ⟨h1, l, by rw [stand_nil]; exact h, Moves.refl _ _ _⟩
    · have e : cov 0 n lo a b = [n] := by unfold cov; rw [if_neg (by subst ehi; simpa using hout)]
      rw [e]
      exact cover_hit w h n lo hi k a b (by omega) (by omega) (by omega) (by omega) (by omega) (by omega) (by omega)
  | succ ht ih =>
    intro w T l n lo hi h ehi hh hlo hnh hm hm2
    have hp : 2 ^ (ht + 1) = 2 ^ ht + 2 ^ ht := by rw [Nat.pow_succ]; omega
    have hp1 : 1 ≤ 2 ^ ht := Nat.one_le_two_pow
    have hp2 : 2 ^ ht ≤ 8 := by
      have : 2 ^ ht ≤ 2 ^ 3 := Nat.pow_le_pow_right (by omega) (by omega)
      omega
    have hnn : (2 * n + 1 + 1) * 2 ^ ht = (n + 1) * 2 ^ (ht + 1) := by rw [show 2 * n + 1 + 1 = (n + 1) * 2 by omega, Nat.mul_assoc, Nat.pow_succ, Nat.mul_comm 2]
    have hn2 : (n + 1) * 2 ≤ (n + 1) * 2 ^ (ht + 1) := Nat.mul_le_mul_left _ (by omega)
    have hn3 : (2 * n + 1) * 2 ^ ht ≤ (2 * n + 1 + 1) * 2 ^ ht := Nat.mul_le_mul_right _ (by omega)
    by_cases hout : b ≤ a ∨ (hi : Int) ≤ a ∨ b ≤ (lo : Int)
    · have e : cov (ht + 1) n lo a b = [] := by unfold cov; rw [if_pos (by subst ehi; simpa using hout)]
      rw [e]
      refine (cover_out w n lo hi k a b hout).mono ?_
      rintro e w' ⟨h1, rfl⟩
      exact ⟨h1, l, by rw [stand_nil]; exact h, Moves.refl _ _ _⟩
    · by_cases hin : a ≤ (lo : Int) ∧ (hi : Int) ≤ b
      · have e : cov (ht + 1) n lo a b = [n] := by unfold cov; rw [if_neg (by subst ehi; simpa using hout), if_pos (by subst ehi; simpa using hin)]
        rw [e]
        exact cover_hit w h n lo hi k a b (by omega) (by omega) (by omega) (by omega) (by omega) (by omega) (by omega)
      · have e : cov (ht + 1) n lo a b = cov ht (2 * n) lo a b ++ cov ht (2 * n + 1) (lo + 2 ^ ht) a b := by
          conv => lhs; unfold cov
          rw [if_neg (by subst ehi; simpa using hout), if_neg (by subst ehi; simpa using hin)]
        have hl1 := cov_len ht (2 * n) lo a b
        rw [e, ← stand_append]
        have h1 : ¬ b ≤ a := by omega
        have h2 : ¬ (hi : Int) ≤ a := by omega
        have h3 : ¬ b ≤ (lo : Int) := by omega
        have HC1 : Hid (∀ (w : World) (l : Lay), TS w base tb T l → Calls Yba.prog 20 #[.pointer (some ⟨tb, 0, none⟩), .int .i64 ((2 * n : Nat) : Int), .int .i64 lo, .int .i64 ((lo + 2 ^ ht : Nat) : Int), .int .i64 a, .int .i64 b, .int .i64 k] w fun e w' => (∃ v, e = .returned v) ∧
            ∃ l', TS w' base tb (T.stand k (cov ht (2 * n) lo a b)) l' ∧ Moves tb l w l' w') := by
          show ∀ _, _
          intro w l hT
          exact ih w T l (2 * n) lo _ hT rfl (by omega) (by omega) (by omega) (by omega) (by omega)
        have HC2 : Hid (∀ (w : World) (l : Lay), TS w base tb (T.stand k (cov ht (2 * n) lo a b)) l → Calls Yba.prog 20 #[.pointer (some ⟨tb, 0, none⟩), .int .i64 ((2 * n + 1 : Nat) : Int), .int .i64 ((lo + 2 ^ ht : Nat) : Int), .int .i64 hi, .int .i64 a, .int .i64 b, .int .i64 k] w fun e w' => (∃ v, e = .returned v) ∧
            ∃ l', TS w' base tb ((T.stand k (cov ht (2 * n) lo a b)).stand k (cov ht (2 * n + 1) (lo + 2 ^ ht) a b)) l' ∧ Moves tb l w l' w') := by
          show ∀ _, _
          intro w l hT
          refine ih w _ l (2 * n + 1) _ hi hT (by omega) (by omega) (by omega) (by omega) ?_ ?_
          · simp only [Tree.stand, List.length_append, List.length_map]; omega
          · simp only [Tree.stand, List.length_append, List.length_map]; omega
        obtain ⟨n1, hn1⟩ : ∃ n1 : Nat, (2 : Int) * n = n1 := ⟨2 * n, by omega⟩
        obtain ⟨n2, hn2'⟩ : ∃ n2 : Nat, (n1 : Int) + 1 = n2 := ⟨2 * n + 1, by omega⟩
        have en1 : 2 * n = n1 := by omega
        have en2 : n1 + 1 = n2 := by omega
        obtain ⟨mid, hmid⟩ : ∃ mid, lo + 2 ^ ht = mid := ⟨_, rfl⟩
        have hd : ((lo : Int) + (hi : Int)).tdiv 2 = (mid : Int) := by
          rw [Int.tdiv_eq_ediv_of_nonneg (by omega)]; omega
        rw [en1, hmid] at HC1 HC2
        rw [en2] at HC2
        rw [en1, hmid, en2]
        have b1 : (lo : Int) + (hi : Int) < 10000000 := by omega
        have b2 : (n1 : Int) < 10000000 := by omega
        have b3 : (n2 : Int) < 10000000 := by omega
        have b4 : (mid : Int) < 10000000 := by omega
        have HI : Hid (¬ (a ≤ (lo : Int) ∧ (hi : Int) ≤ b)) := hin
        clear ih hm hm2 hp hp1 hp2 hnn hn2 hn3 hl1 ehi e en1 en2 hmid hin hnh hh
        by_cases h4 : a ≤ (lo : Int)
        · have h5 : ¬ (hi : Int) ≤ b := fun x => HI.out ⟨h4, x⟩
          go_enter Yba.func20, Yba.ntmps20
          go_wp2_with fail
          refine (HC1.out w l h).mono ?_
          rintro e W1 ⟨⟨v, rfl⟩, l1, hT1, hM1⟩
          go_wp2_with fail
          refine (HC2.out W1 l1 hT1).mono ?_
          rintro e W2 ⟨⟨v2, rfl⟩, l2, hT2, hM2⟩
          go_wp2
          go_end0
          exact ⟨⟨_, rfl⟩, l2, hT2, hM1.trans hM2⟩
        · go_enter Yba.func20, Yba.ntmps20
          go_wp2_with fail
          refine (HC1.out w l h).mono ?_
          rintro e W1 ⟨⟨v, rfl⟩, l1, hT1, hM1⟩
          go_wp2_with fail
          refine (HC2.out W1 l1 hT1).mono ?_
          rintro e W2 ⟨⟨v2, rfl⟩, l2, hT2, hM2⟩
          go_wp2
          go_end0
          exact ⟨⟨_, rfl⟩, l2, hT2, hM1.trans hM2⟩
end
end Go.Proofs.Ybulkcmtm
