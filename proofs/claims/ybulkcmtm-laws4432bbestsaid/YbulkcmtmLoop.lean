/- (*offerTree).join: its loop over the offer's stands. -/
import Derived.Test.YbulkcmtmCover
import Derived.Test.YbulkcmtmStand
import Derived.Test.YbulkcmtmRound
import Derived.Test.YbulkcmtmLeave
import Derived.RangeFuncFrom
import Derived.RangeFuncLeaves
import Derived.RangeFuncCalls
import Derived.RangeFuncBox
import Derived.Deep.LoopGhost
import Derived.Deep.DeepCutAuto
import Derived.Deep.RegionHeld3
import Derived.OwnWalkIn
namespace Go.Proofs.Ybulkcmtm
open Go.RowKit

/-- A post that no panic meets: for a function that bears a mark. -/
def calmPost (Q : Exit → Act → World → Prop) : Exit → Act → World → Prop
  | .panic _, _, _ => False
  | .outgrown, _, _ => False
  | .normal, a, w => Q .normal a w
  | .ret, a, w => Q .ret a w
  | .exit i, a, w => Q (.exit i) a w
  | .goto t, a, w => Q (.goto t) a w

theorem calm_le {Q : Exit → Act → World → Prop} : ∀ (e : Exit) (a : Act) (w : World), calmPost Q e a w → Q e a w
  | .panic _, _, _, h => h.elim
  | .outgrown, _, _, h => h.elim
  | .normal, _, _, h => h
  | .ret, _, _, h => h
  | .exit _, _, _, h => h
  | .goto _, _, _, h => h

def oq (T : Tree) (k : Nat) : Qu := ⟨T.off.getD k [], T.oAt⟩

/-- Behind heap.Push(&t.offers[k], held{n, r}). -/
def Tree.offer (T : Tree) (k : Nat) (x : Held) : Tree := { T with off := T.off.set k ((oq T k).hpush x).it, oAt := ((oq T k).hpush x).at_ }

/-- The variables of join that lie in boxes. -/
structure Bx (N tb k : Nat) (p q : Int) (W : World) : Prop where
  t : W.heap[N]? = some (.cells #[.pointer (some ⟨tb, 0, none⟩)] 25 (0, 0))
  k : W.heap[N + 1]? = some (.cells #[.int .i64 k] 3 (0, 0))
  r : W.heap[N + 2]? = some (.cells #[.int .i64 p, .int .i64 q] 28 (0, 0))

section
variable {base tb : Nat} {T : Tree} {l : Lay}

theorem Bx.keep {N k : Nat} {p q : Int} {w3 W : World} {l' : Lay} (h : Bx N tb k p q w3) (ho : ∀ j, l.owns j → j < N) (ht : tb < N) (hm : Moves tb l w3 l' W) : Bx N tb k p q W := by
  have key : ∀ b o, N ≤ b → w3.heap[b]? = some o → W.heap[b]? = some o := fun b o hb hh => by
    refine (hm.touch.block b (Array.getElem?_eq_some_iff.1 hh).1 ?_).trans hh
    rintro (e | e)
    · have := ho b e; omega
    · omega
  exact ⟨key _ _ (by omega) h.t, key _ _ (by omega) h.k, key _ _ (by omega) h.r⟩

theorem Bx.cells {N k : Nat} {p q : Int} {W : World} (h : Bx N tb k p q W) :
    W.cell? ⟨N, 0, none⟩ = some (.pointer (some ⟨tb, 0, none⟩)) ∧ W.cell? ⟨N + 1, 0, none⟩ = some (.int .i64 k) ∧ W.cell? ⟨N + 2, 0, none⟩ = some (.int .i64 p) ∧ W.cell? ⟨N + 2, 1, none⟩ = some (.int .i64 q) := by
  refine ⟨?_, ?_, ?_, ?_⟩
  · simp [World.cell?, h.t]
  · simp [World.cell?, h.k]
  · simp [World.cell?, h.r]
  · simp [World.cell?, h.r]

/-- The nodes of all these stretches. -/
def covs (ex : Nat) (cs : List (Int × Int)) : List Nat := cs.flatMap fun c => cov ex 1 0 c.1 c.2

theorem covs_len {ex : Nat} (hex : ex ≤ 4) (cs : List (Int × Int)) : (covs ex cs).length ≤ cs.length * 16 := by
  induction cs with
  | nil => simp [covs]
  | cons c cs ih =>
    have h1 := cov_len ex 1 0 c.1 c.2
    have h2 : 2 ^ ex ≤ 2 ^ 4 := Nat.pow_le_pow_right (by omega) hex
    simp only [covs, List.flatMap_cons, List.length_append, List.length_cons] at ih ⊢
    omega

theorem covs_snoc (ex : Nat) (cs : List (Int × Int)) (x : Int × Int) : covs ex (cs ++ [x]) = covs ex cs ++ cov ex 1 0 x.1 x.2 := by simp [covs]

theorem cov_lt (h n lo : Nat) (a b : Int) : ∀ m ∈ cov h n lo a b, m < (n + 1) * 2 ^ h := by
  induction h generalizing n lo with
  | zero =>
    intro m hm
    unfold cov at hm
    split at hm
    · cases hm
    · simp at hm; omega
  | succ h ih =>
    intro m hm
    have hp : 1 ≤ 2 ^ h := Nat.one_le_two_pow
    have e : (n + 1) * 2 ^ (h + 1) = (2 * n + 1 + 1) * 2 ^ h := by rw [show 2 * n + 1 + 1 = (n + 1) * 2 by omega, Nat.mul_assoc, Nat.pow_succ, Nat.mul_comm 2]
    unfold cov at hm
    split at hm
    · cases hm
    · split at hm
      · simp at hm
        subst hm
        rw [Nat.pow_succ]
        have : (m + 1) * (1 * 2) ≤ (m + 1) * (2 ^ h * 2) := Nat.mul_le_mul_left _ (Nat.mul_le_mul_right _ hp)
        omega
      · rw [e]
        rcases List.mem_append.1 hm with x | x
        · exact Nat.lt_of_lt_of_le (ih (2 * n) lo m x) (Nat.mul_le_mul_right _ (by omega))
        · exact ih (2 * n + 1) _ m x

theorem HW.standing {T : Tree} (h : HW T) {k : Nat} (hk : k < T.off.length) {ns : List Nat} (hn : ∀ m ∈ ns, m < T.hd.length) : HW (T.stand k ns) := by
  refine ⟨by simp [Tree.stand, h.len], ?_, ?_, ?_, ?_⟩
  · intro j hj i hi
    have := h.wf j hj i hi
    refine ⟨by simp only [hq, Tree.stand, List.length_append]; exact Nat.lt_of_lt_of_le this.1 (Nat.le_add_right _ _), ?_⟩
    show (T.sAt ++ ns.map (fun _ => -1))[((hq T j).g i).n]? = _
    rw [List.getElem?_append_left (show ((hq T j).g i).n < T.sAt.length from this.1)]
    exact this.2
  · intro s p hp
    simp only [Tree.stand, List.getElem?_append] at hp
    split at hp
    · exact h.nodes s p hp
    · rw [List.getElem?_map] at hp
      cases he : ns[s - T.st.length]? with
      | none => rw [he] at hp; cases hp
      | some m =>
        rw [he] at hp
        simp at hp
        subst hp
        exact ⟨⟨m, rfl, hn m (List.mem_of_getElem? he)⟩, k, rfl, hk⟩
  · intro j hj y hy
    obtain ⟨p, hp, hp2⟩ := h.mem j hj y hy
    refine ⟨p, ?_, hp2⟩
    simp only [Tree.stand]
    rw [List.getElem?_append_left (List.getElem?_eq_some_iff.1 hp).1]
    exact hp
  · intro s hs
    by_cases e : s < T.sAt.length
    · rcases h.place s e with h1 | ⟨i, nd, o, h1, h2, h3, h4, h5⟩
      · left
        simp only [Tree.stand]
        rw [List.getElem?_append_left e]; exact h1
      · right
        refine ⟨i, nd, o, ?_, ?_, h3, h4, h5⟩
        · simp only [Tree.stand]; rw [List.getElem?_append_left e]; exact h1
        · simp only [Tree.stand]; rw [List.getElem?_append_left (by rw [h.len]; exact e)]; exact h2
    · left
      simp only [Tree.stand, List.length_append, List.length_map] at hs ⊢
      rw [List.getElem?_append_right (by omega), List.getElem?_map, List.getElem?_eq_getElem (by omega)]
      rfl

/-- How the tree stands ahead of join's loop. -/
def Stage (T T2 : Tree) (k ex : Nat) (x : Held) (cs : List (Int × Int)) : Prop :=
  (T2 = T.offer k x ∧ ∃ f t : Nat, T.so[k]? = some ((f : Int), (t : Int))) ∨
    (T.so[k]? = some (-1, -1) ∧ T2 = { (T.offer k x).stand k (covs ex cs) with so := T.so.set k ((T.st.length : Int), ((T.st.length + (covs ex cs).length : Nat) : Int)) })

/-- WHAT JOINING COMES TO. -/
structure Joined (T T' : Tree) (k ex : Nat) (x : Held) (cs : List (Int × Int)) : Prop where
  lv : T'.lv = T.lv
  off : T'.off = T.off.set k ((oq T k).hpush x).it
  oAt : T'.oAt = ((oq T k).hpush x).at_
  hw : HW T'
  hl : T'.hd.length = T.hd.length
  sol : T'.so.length = T.so.length
  out : T'.oAt[x.n]? ≠ some 0 → T'.st = T.st ∧ T'.so = T.so ∧ T'.sAt = T.sAt
  new : T'.oAt[x.n]? = some 0 → ∃ T2 f t, Stage T T2 k ex x cs ∧ After T2 T' ∧ T2.so[k]? = some (((f : Nat) : Int), ((t : Nat) : Int)) ∧ t ≤ T2.st.length ∧ ∀ s, f ≤ s → s < t → ∃ j : Nat, T'.sAt[s]? = some (j : Int)

theorem Touch.drewN (S : Nat → Prop) (w : World) (n : Nat) : Touch S w (w.drewN n) := ⟨rfl, rfl, rfl, Nat.le_refl _, fun _ _ _ => rfl⟩

theorem TS.keepOwn {w w' : World} {base tb : Nat} {T : Tree} {l : Lay} {S : Nat → Prop} (h : TS w base tb T l) (ht : Touch S w w') (hS : ∀ k, l.owns k ∨ k = tb → ¬ S k) : TS w' base tb T l := by
  obtain ⟨c, hc⟩ := h.tt
  have et : w'.heap[tb]? = w.heap[tb]? := ht.block tb h.tb_lt (hS tb (.inr rfl))
  have ce : ∀ j, w'.cell? ⟨tb, j, none⟩ = w.cell? ⟨tb, j, none⟩ := fun j => World.cell?_of_block (a := ⟨tb, j, none⟩) et
  exact ⟨⟨c, et.trans hc⟩, h.lo, (ce 0).trans h.c0, (ce 4).trans h.c4, (ce 5).trans h.c5, (ce 6).trans h.c6, (ce 7).trans h.c7, (ce 8).trans h.c8, (ce 9).trans h.c9,
    h.offs.keep ht (fun k e => hS k (.inl (.inl e))) (fun i _ k e => hS k (.inl (.inr (.inr (.inr (.inr (.inr (.inr (.inl ⟨i, e⟩))))))))), h.heads.keep ht (fun k e => hS k (.inl (.inr (.inr (.inl e))))) (fun i _ k e => hS k (.inl (.inr (.inr (.inr (.inr (.inr (.inr (.inr ⟨i, e⟩))))))))),
    own_keep h.rA ht (fun k e => hS k (.inl (.inr (.inl e)))), own_keep h.rSA ht (fun k e => hS k (.inl (.inr (.inr (.inr (.inr (.inl e))))))), own_keep h.rS ht (fun k e => hS k (.inl (.inr (.inr (.inr (.inl e)))))), own_keep h.rSO ht (fun k e => hS k (.inl (.inr (.inr (.inr (.inr (.inr (.inl e)))))))), h.sA, h.sQ, h.sI⟩

/-- The tree abides the turn of what is no cells. -/
theorem own_tree {β : Type} {w3 : World} {B : Nat} (hB : w3.heap.size ≤ B) (f : β → Tree) : OwnFrom B (fun s W => ∃ l2, TS W base tb (f s) l2 ∧ Moves tb l w3 l2 W) := by
  rintro s W W' row ⟨l2, hT, hM⟩ hg hr
  have ht : Touch (fun j => row = some j) W W' := (Touch.refl _ W).grown hg (fun k e => e)
  refine ⟨l2, hT.keepOwn ht ?_, ⟨hM.touch.trans' ht ?_, ?_⟩⟩
  · rintro j (e | e) hj
    · obtain ⟨_, o, ho, hc⟩ := hr j hj
      obtain ⟨_, c, t, _, hh⟩ := hT.owned e
      rw [hh] at ho; cases ho; cases hc
    · subst e
      obtain ⟨_, o, ho, hc⟩ := hr j hj
      obtain ⟨c, hh⟩ := hT.tt
      rw [hh] at ho; cases ho; cases hc
  · intro i hi e
    have := (hr i e).1
    omega
  · exact hM.fresh
end

def sec : Code → Code
  | .seq _ y => y
  | c => c

section
variable {base tb : Nat} {T2 : Tree} {l l2 : Lay}

theorem mk72 (v : Value) (w : World) : (Instr.makeInterface 72 v).run Yba.prog w = .ok (.iface 72 v) w := by kernel_rfl

theorem pair_some {α β : Type} {o : Option (α × β)} {x : α × β} (h : o = some x) : o = some (x.1, x.2) := h

/-- The tree behind 'node.items[at].rank = r'. -/
theorem ranked_ex {T : Tree} (h : HW T) {nd i : Nat} (hn : nd < T.hd.length) (hi : i < (T.hd.getD nd []).length) (p q : Int) (base tb g : Nat) : ∃ T1 : Tree,
    (∀ (w : World) (l : Lay), TS w base tb T l → (l.iH.getD nd nilS).ownBlock = some g → TS ((w.setCell ⟨g, i * 3 + 1, none⟩ (.int .i64 p)).setCell ⟨g, i * 3 + 2, none⟩ (.int .i64 q)) base tb T1 l) ∧
    HW T1 ∧ After T T1 ∧ nd < T1.hd.length ∧ i < (T1.hd.getD nd []).length ∧ (T1.hd.getD nd []).length = (T.hd.getD nd []).length ∧ T1.sAt = T.sAt ∧
    HW { T1 with hd := T1.hd.set nd ((hq T1 nd).fix i).it, sAt := ((hq T1 nd).fix i).at_ } ∧ After T1 { T1 with hd := T1.hd.set nd ((hq T1 nd).fix i).it, sAt := ((hq T1 nd).fix i).at_ } := by
  obtain ⟨h1, h2, h3, h4⟩ := h.fixed hn hi p q
  refine ⟨{ T with hd := T.hd.set nd ((T.hd.getD nd []).set i ⟨((T.hd.getD nd [])[i]).n, p, q⟩) }, fun w l hT hg => hT.setRank hn hg hi p q, h1, h2, by simpa using hn, ?_, ?_, rfl, h3, h4⟩
  · simp only [getD_set' hn]; simpa using hi
  · simp only [getD_set' hn]; simp

theorem qset_same {w w' : World} {qb qo : Nat} {v : Value} (h : w'.heap[qb]? = w.heap[qb]?) (hc : w.cell? ⟨qb, qo, none⟩ = some v) : qset w w' qb qo v := by
  intro c hh
  rw [h, hh]
  simp only [World.cell?, hh] at hc
  have hc' : c[qo]? = some v := by simpa using hc
  congr 2
  apply Array.ext
  · simp
  · intro j h1 h2
    rw [Array.getElem_setIfInBounds h1]
    split
    · rename_i e
      subst e
      obtain ⟨_, e⟩ := Array.getElem?_eq_some_iff.1 hc'
      exact e
    · rfl

theorem keep5 {w W W' : World} {a1 a2 a3 a4 a5 : Addr} {v1 v2 v3 v4 v5 : Value} (h : Below w.heap.size w W ∧ W.cell? a1 = some v1 ∧ W.cell? a2 = some v2 ∧ W.cell? a3 = some v3 ∧ W.cell? a4 = some v4 ∧ W.cell? a5 = some v5) (hb : Below W.heap.size W W') :
    Below w.heap.size w W' ∧ W'.cell? a1 = some v1 ∧ W'.cell? a2 = some v2 ∧ W'.cell? a3 = some v3 ∧ W'.cell? a4 = some v4 ∧ W'.cell? a5 = some v5 :=
  ⟨h.1.trans (hb.mono h.1.size), cell_below hb h.2.1, cell_below hb h.2.2.1, cell_below hb h.2.2.2.1, cell_below hb h.2.2.2.2.1, cell_below hb h.2.2.2.2.2⟩

set_option maxHeartbeats 4000000 in
set_option maxRecDepth 100000 in
theorem join_loop (k f t M : Nat) (p q : Int) (w3 wl : World) (hBx : Bx M tb k p q w3) (hlt : ∀ j, l.owns j → j < M) (htb : tb < M) (hT2 : TS wl base tb T2 l2) (hM2 : Moves tb l w3 l2 wl) (hH2 : HW T2)
    (hso : T2.so[k]? = some ((f : Int), (t : Int))) (hle : t ≤ T2.st.length) (hst : T2.st.length ≤ 80000) (ds : List Deferred) (Q : Exit → Act → World → Prop)
    (hQ : ∀ tmps w' T' l', TS w' base tb T' l' → Moves tb l w3 l' w' → KeepsOthers wl w' → HW T' → After T2 T' → (∀ s, f ≤ s → s < t → ∃ j : Nat, T'.sAt[s]? = some (j : Int)) → Q .normal ⟨tmps, ds⟩ w')
    (u0 u1 u2 u3 u4 u7 u9 u10 u11 u12 u13 u14 u15 u16 u17 u18 u19 u20 u21 u22 u23 u24 u25 u26 u27 u28 u29 u30 u31 u32 u33 u34 u35 u36 u37 u38 u39 u40 u41 u42 u43 u44 u45 u46 u47 u48 u49 u50 u51 u52 u53 u54 u55 u56 u57 u58 u59 u60 u61 u62 u63 u64 u65 u66 u67 u68 u69 u70 u71 u72 u73 u74 u75 u76 u77 u78 u79 u80 u81 u82 u83 u84 u85 u86 u87 u88 u89 u90 u91 u92 u93 u94 u95 u96 u97 u98 u99 u100 u101 u102 u103 u104 u105 u106 u107 u108 u109 u110 u111 u112 u113 u114 u115 u116 u117 u118 u119 u120 u121 u122 u123 u124 u125 u126 u127 u128 u129 u130 u131 u132 u133 u134 u135 u136 u137 u138 u139 u140 u141 u142 u143 u144 u145 : Value) :
    (sec (sec (sec (sec (Yba.f6.body.getD .skip))))).wp Yba.prog (calmPost Q) ⟨#[u0, u1, u2, u3, u4, .pointer (some ⟨M, 0, none⟩), .pointer (some ⟨M + 1, 0, none⟩), u7, .pointer (some ⟨M + 1 + 1, 0, none⟩), u9, u10, u11, u12, u13, u14, u15, u16, u17, u18, u19, u20, u21, u22, u23, u24, u25, u26, u27, u28, u29, u30, u31, u32, u33, u34, u35, u36, u37, u38, u39, u40, u41, u42, u43, u44, u45, u46, u47, u48, u49, u50, u51, u52, u53, u54, u55, u56, u57, u58, u59, u60, u61, u62, u63, u64, u65, u66, u67, u68, u69, u70, u71, u72, u73, u74, u75, u76, u77, u78, u79, u80, u81, u82, u83, u84, u85, u86, u87, u88, u89, u90, u91, u92, u93, u94, u95, u96, u97, u98, u99, u100, u101, u102, u103, u104, u105, u106, u107, u108, u109, u110, u111, u112, u113, u114, u115, u116, u117, u118, u119, u120, u121, u122, u123, u124, u125, u126, u127, u128, u129, u130, u131, u132, u133, u134, u135, u136, u137, u138, u139, u140, u141, u142, u143, u144, u145], ds⟩ wl := by
  have hks : k < T2.so.length := (List.getElem?_eq_some_iff.1 hso).1
  have rSO := hT2.rSO
  obtain ⟨sb, cso, hvS, -⟩ := rSO.form (by omega)
  obtain ⟨p1, p2⟩ := pairs_get T2.so k _ hso
  have e1 : wl.cell? ⟨sb, k * 2, none⟩ = some (.int .i64 (f : Int)) := own_cell rSO (g := sb) (by rw [hvS]; rfl) p1
  have c9 := hT2.c9
  rw [hvS] at c9
  obtain ⟨y0, y1, y2, y3⟩ := (hBx.keep hlt htb hM2).cells
  have i2 : (k : Int) < (T2.so.length : Int) := by omega
  have i3 : (0 : Int) ≤ (k : Int) := by omega
  clear p1 p2 hvS rSO
  dsimp only [sec, Yba.f6, Option.getD]
  go_upto_region 10 with fail
  go_quiet (fail)
  go_wp2_with fail
  obtain ⟨wd, hwd⟩ : ∃ wd, wl.drewN nq = wd := ⟨_, rfl⟩
  have hTd : TS wd base tb T2 l2 := by rw [← hwd]; exact hT2.keepOwn (Touch.drewN (fun _ => False) wl nq) (fun _ _ x => x)
  have hMd : Moves tb l w3 l2 wd := by rw [← hwd]; exact hM2.trans ⟨Touch.drewN _ wl nq, fun _ h => .inl h⟩
  have hKd : KeepsOthers wl wd := by rw [← hwd]; exact ⟨Nat.le_refl _, fun _ _ h _ => h⟩
  rw [hwd]
  clear hwd e1 c9 y0 y1 y2 y3 hT2 hM2
  go_loopg [13] (t - f + 1) (fun gh v wr => ∃ (s : Nat) (T' : Tree) (l' : Lay), v = .int .i64 s ∧ f ≤ s ∧ TS wr base tb T' l' ∧ Moves tb l w3 l' wr ∧ KeepsOthers wl wr ∧ HW T' ∧ After T2 T' ∧ (∀ s', f ≤ s' → s' < s → s' < t → ∃ j : Nat, T'.sAt[s']? = some (j : Int)) ∧ t - s + 1 ≤ gh)
  case atStart => exact ⟨f, T2, l2, rfl, Nat.le_refl _, hTd, hMd, hKd, hH2, After.refl _, fun s' h1 h2 => absurd h1 (by omega), Nat.le_refl _⟩
  case round =>
    clear hTd hMd hKd hH2
    obtain ⟨s, T', l', rfl, hfs, hT, hM, hKO, hH, hA, hall, hgh⟩ := hrel
    have hso' : T'.so[k]? = some ((f : Int), (t : Int)) := by rw [hA.so]; exact hso
    have rSO := hT.rSO
    obtain ⟨sb, cso, hvS, -⟩ := rSO.form (by rw [hA.so]; omega)
    obtain ⟨p1, p2⟩ := pairs_get T'.so k _ hso'
    have e2 : wr.cell? ⟨sb, k * 2 + 1, none⟩ = some (.int .i64 (t : Int)) := own_cell rSO (g := sb) (by rw [hvS]; rfl) p2
    have c9 := hT.c9
    rw [hvS] at c9
    have i4 : (k : Int) < (T'.so.length : Int) := by rw [hA.so]; omega
    obtain ⟨y0, y1, y2, y3⟩ := (hBx.keep hlt htb hM).cells
    clear p1 p2 hvS rSO hso'
    go_upto_region 11 with fail
    go_quiet (fail)
    by_cases hst' : s < t
    · have t1 : (s : Int) < (t : Int) := by omega
      go_upto_region 13 with fail
      have hss : s < T'.st.length := by rw [hA.st]; omega
      obtain ⟨⟨o, nd'⟩, hsn⟩ : ∃ d, T'.st[s]? = some d := ⟨_, List.getElem?_eq_getElem hss⟩
      obtain ⟨⟨nd, hnd, hndl⟩, -⟩ := hH.nodes s _ hsn
      simp only [] at hnd
      subst hnd
      obtain ⟨z, hz⟩ : ∃ z, T'.sAt[s]? = some z := ⟨_, List.getElem?_eq_getElem (by rw [← hH.len]; exact hss)⟩
      obtain ⟨gS, cS, hvS, -⟩ := hT.rS.form (by omega)
      obtain ⟨gA, cA, hvA, -⟩ := hT.rSA.form (by rw [← hH.len]; omega)
      obtain ⟨gH, cH, hvH⟩ := hT.heads.block (by omega)
      obtain ⟨p1, p2⟩ := pairs_get T'.st s _ hsn
      have cs2 : wr.cell? ⟨gS, s * 2 + 1, none⟩ = some (.int .i64 (nd : Int)) := own_cell hT.rS (g := gS) (by rw [hvS]; rfl) p2
      have ca := own_cell hT.rSA (g := gA) (by rw [hvA]; rfl) (j := s) (u := .int .i64 z) (by simp [ints, hz])
      have hq0 : l'.vH.ownBlock = some gH := by rw [hvH]; rfl
      have c6 := hT.c6
      have c7 := hT.c7
      have c8 := hT.c8
      rw [hvH] at c6
      rw [hvS] at c7
      rw [hvA] at c8
      have k1 : (0 : Int) ≤ (s : Int) := by omega
      have k2 : (s : Int) < (T'.st.length : Int) := by omega
      have k3 : (0 : Int) ≤ (nd : Int) := by omega
      have k4 : (nd : Int) < (T'.hd.length : Int) := by omega
      have k5 : (s : Int) < (T'.sAt.length : Int) := by rw [← hH.len]; omega
      have hwr : IntKind.i64.wrap ((s : Int) + 1) = (s : Int) + 1 := by rw [IntKind.wrap_i64]; omega
      have Hall : Hid (∀ s', f ≤ s' → s' < s → s' < t → ∃ j : Nat, T'.sAt[s']? = some (j : Int)) := hall
      have Hz : Hid (T'.sAt[s]? = some z) := hz
      have Hsn : Hid (T'.st[s]? = some (o, (nd : Int))) := hsn
      have HQ0 : Hid (l'.vH.ownBlock = some gH) := hq0
      have Hso : Hid (T2.so[k]? = some ((f : Int), (t : Int))) := hso
      have Hnum : Hid (f ≤ s ∧ s < t ∧ t - s + 1 ≤ _ ∧ t ≤ T2.st.length ∧ T2.st.length ≤ 80000 ∧ s < T'.st.length ∧ nd < T'.hd.length) := ⟨hfs, hst', hgh, hle, hst, hss, hndl⟩
      have Hlt : Hid (∀ j, l.owns j → j < M) := hlt
      clear p1 p2 hvS hvA hvH hall hz hsn hq0 hso hQ hfs hst' hgh hle hst hss hndl hlt
      go_quiet (fail)
      go_upto_if 116 with fail
      obtain ⟨hfs, hst', hgh, hle, hst, hss, hndl⟩ := Hnum.out
      have hz := Hz.out
      have hsn := Hsn.out
      have hlt := Hlt.out
      have hq0 := HQ0.out
      generalize hwe : World.drewN wr _ = we
      have hTe : TS we base tb T' l' := by rw [← hwe]; exact hT.keepOwn (Touch.drewN (fun _ => False) _ _) (fun _ _ x => x)
      have hMe : Moves tb l w3 l' we := by rw [← hwe]; exact hM.trans ⟨Touch.drewN _ _ _, fun _ h => .inl h⟩
      have hKe : KeepsOthers wl we := by rw [← hwe]; exact ⟨hKO.size, hKO.same⟩
      obtain ⟨y0, y1, y2, y3⟩ := (hBx.keep hlt htb hMe).cells
      have hQe := hTe.heads.queue hq0 hndl hTe.c8 hTe.rSA hTe.tt
      have hlen := Qu.WF.len (hH.wf nd hndl)
      have hlen2 : (T'.hd.getD nd []).length ≤ 80000 := by
        have : (T'.hd.getD nd []).length ≤ T'.sAt.length := hlen
        rw [← hH.len, hA.st] at this
        omega
      have hbe : base ≤ we.heap.size := Nat.le_trans hTe.lo (Nat.le_of_lt hTe.tb_lt)
      have hsl : s < T'.sAt.length := by rw [← hH.len]; exact hss
      clear hwe hT hM hKO cs2 ca c6 c7 c8 e2 c9 hlen
      have hlast : ∀ (T'' : Tree), After T' T'' → (∃ j : Nat, T''.sAt[s]? = some (j : Int)) → ∀ s', f ≤ s' → s' < s + 1 → s' < t → ∃ j : Nat, T''.sAt[s']? = some (j : Int) := by
        intro T'' hA' hj s' h1 h2 h3
        by_cases e : s' = s
        · subst e; exact hj
        · obtain ⟨j, hj'⟩ := Hall.out s' h1 (by omega) h3
          exact hA'.keep s' j hj'
      have HL : Hid (∀ (T'' : Tree), After T' T'' → (∃ j : Nat, T''.sAt[s]? = some (j : Int)) → ∀ s', f ≤ s' → s' < s + 1 → s' < t → ∃ j : Nat, T''.sAt[s']? = some (j : Int)) := hlast
      have hgm : Hid (t - (s + 1) + 1 < gk) := (by omega : t - (s + 1) + 1 < gk)
      have hf1 : Hid (f ≤ s + 1) := (by omega : f ≤ s + 1)
      rcases hH.place s hsl with hz1 | ⟨i, nd2, o2, hz1, hsn2, hnd2, hi, hgi⟩
      · rw [hz] at hz1
        cases Option.some.inj hz1
        obtain ⟨hno, hH1, hA1, hj⟩ := hH.pushed hz hsn hndl p q
        have HJ : Hid (∃ j : Nat, ((hq T' nd).hpush ⟨s, p, q⟩).at_[s]? = some (j : Int)) := hj
        have hwf := hH.wf nd hndl
        have hmk := mkI
        have hmk2 := mk72
        have Hno : Hid (∀ y ∈ T'.hd.getD nd [], y.n ≠ s) := hno
        have HN : Hid ((T'.hd.getD nd []).length ≤ 90000 ∧ s < T'.sAt.length ∧ base ≤ we.heap.size ∧ nd < T'.hd.length) := ⟨by omega, hsl, hbe, hndl⟩
        clear hj hz1 hz hsn hlast hgh hno Hz Hsn Hall hfs hst' hss hle hst hlen2 hsl hbe hndl k1 k2 k3 k4 k5 t1 i2 i3 i4 hks
        go_wp2_with fail
        obtain ⟨hlen2, hsl, hbe, hndl⟩ := HN.out
        refine (hpush19 we hQe hwf ⟨s, p, q⟩ hsl Hno.out hlen2 hbe).mono ?_
        rintro e W1 ⟨⟨u, rfl⟩, v', hQ1, hT1, ho1, hs1⟩
        have hTS := hTe.updH hq0 hndl hT1 hs1 hQ1 ho1
        have hMv := moves_H hTe hq0 hndl hT1 ho1
        have hK1 := hKe.trans (hMv.others hTe)
        have hM1 := hMe.trans hMv
        clear hmk hmk2 hQ1 hT1 hs1 hlen2 hsl hbe hndl
        go_wp2
        go_roundg (t - (s + 1) + 1)
        case measure => exact hgm.out
        case rel => exact ⟨s + 1, _, _, rfl, hf1.out, hTS, hM1, hK1, hH1, hA.trans hA1, HL.out _ hA1 HJ.out, Nat.le_refl _⟩
      · rw [hz] at hz1
        cases Option.some.inj hz1
        rw [hsn] at hsn2
        obtain ⟨_, hnn⟩ := Prod.mk.inj (Option.some.inj hsn2)
        obtain rfl : nd = nd2 := by omega
        have hib : Hid (∃ j : Nat, T'.sAt[s]? = some (j : Int)) := ⟨i, hz⟩
        obtain ⟨gI, cI, hvI, -⟩ := hQe.own.form (Nat.lt_of_le_of_lt (Nat.zero_le i) hi)
        have hgI : (l'.iH.getD nd nilS).ownBlock = some gI := by rw [hvI]; rfl
        obtain ⟨_, m1, m2⟩ := hQe.item hgI hi
        have cI0 := hQe.it
        rw [hvI] at cI0
        have fI := own_frozen hQe.own hgI
        obtain ⟨T1, hset, hH1, hA1, hn1, hi1, hl1, hs1, hH2, hA2⟩ := ranked_ex hH hndl hi p q base tb gI
        have hm0 : (0 : Int) ≤ (i : Int) := by omega
        have hm1 : (i : Int) < ((T'.hd.getD nd []).length : Int) := by omega
        have HN : Hid ((T'.hd.getD nd []).length ≤ 80000 ∧ nd < T'.hd.length ∧ i < (T'.hd.getD nd []).length) := ⟨by omega, hndl, hi⟩
        have t2 : ¬ ((i : Int) < 0) := by omega
        have t3 : decide ((i : Int) < 0) = false := by simp
        have HS : Hid (∀ (w : World) (l : Lay), TS w base tb T' l → (l.iH.getD nd nilS).ownBlock = some gI → TS ((w.setCell ⟨gI, i * 3 + 1, none⟩ (.int .i64 p)).setCell ⟨gI, i * 3 + 2, none⟩ (.int .i64 q)) base tb T1 l) := hset
        have HI1 : Hid (i < (T1.hd.getD nd []).length ∧ nd < T1.hd.length ∧ (T1.hd.getD nd []).length ≤ 90000) := ⟨hi1, hn1, by rw [hl1]; omega⟩
        have HT1 : Hid (∃ j : Nat, T1.sAt[s]? = some (j : Int)) := (by rw [hs1]; exact hib.out : ∃ j : Nat, T1.sAt[s]? = some (j : Int))
        clear hset hn1 hi1 hl1 hs1
        clear hz1 hsn2 hnn hz hsn hlast hgh Hz Hsn Hall hfs hst' hss hle hst hlen2 hsl hbe hndl k1 k2 k3 k4 k5 t1 i2 i3 i4 hks hnd2 hgi hvI
        obtain ⟨p', hp'⟩ : ∃ p', ((Qu.mk (T'.hd.getD nd []) T'.sAt).g i).p = p' := ⟨_, rfl⟩
        obtain ⟨q', hq'⟩ : ∃ q', ((Qu.mk (T'.hd.getD nd []) T'.sAt).g i).q = q' := ⟨_, rfl⟩
        rw [hp'] at m1
        rw [hq'] at m2
        clear hp' hq'
        obtain ⟨L, hL⟩ : ∃ L, (T'.hd.getD nd []).length = L := ⟨_, rfl⟩
        have cI1 : we.cell? ⟨gH, nd * 2, none⟩ = some (.slice (some ⟨gI, 0, none⟩) L cI) := by rw [← hL]; exact cI0
        rw [hL] at hm1
        have HL' : Hid ((T'.hd.getD nd []).length = L) := hL
        clear hL cI0 hi
        go_upto_region 17 with fail
        go_region_held3 (fun W => Below we.heap.size we W ∧ W.cell? ⟨gH, nd * 2, none⟩ = some (.slice (some ⟨gI, 0, none⟩) L cI) ∧ W.cell? ⟨gI, i * 3 + 1, none⟩ = some (.int .i64 p') ∧ W.cell? ⟨gI, i * 3 + 2, none⟩ = some (.int .i64 q') ∧ W.cell? ⟨M + 2, 0, none⟩ = some (.int .i64 p) ∧ W.cell? ⟨M + 2, 1, none⟩ = some (.int .i64 q))
          (first | exact ⟨(Below.refl _ _).drew, cI1, m1, m2, y2, y3⟩ | exact keep5 (by assumption) hb') ((go_at_call 21; refine (below21 _ _ _ _ _).mono ?_; rintro e W' ⟨rfl, hb'⟩))
        have hbw : Below we.heap.size we W' := ((Below.refl _ we).drew).trans hb'
        have hTw := hTe.below hbw
        have hMw := hMe.trans (Moves.below hbw)
        have hKw := hKe.trans ⟨hbw.size, fun k o hk _ => (hbw.block k (Array.getElem?_eq_some_iff.1 hk).1).trans hk⟩
        have z1 := cell_below hbw cI1
        have z2 := cell_below hbw m1
        have z3 := cell_below hbw m2
        have z4 := cell_below hbw y2
        have z5 := cell_below hbw y3
        cases hlw : lower p' q' p q with
        | false =>
          go_wp2
          go_roundg (t - (s + 1) + 1)
          case measure => exact hgm.out
          case rel => exact ⟨s + 1, _, _, rfl, hf1.out, hTw, hMw, hKw, hH, hA, HL.out _ (After.refl _) hib.out, Nat.le_refl _⟩
        | true =>
          have fz := fun o => (World.frozen?_of_block (a := ⟨gI, o, none⟩) (hbw.block gI (hQe.own.lt gI hgI).2)).trans (fI o)
          have fz1 := fz (i * 3 + 1)
          have fz2 := fz (i * 3 + 2)
          have HTr : Hid (TS ((W'.setCell ⟨gI, i * 3 + 1, none⟩ (.int .i64 p)).setCell ⟨gI, i * 3 + 2, none⟩ (.int .i64 q)) base tb T1 l') := HS.out W' l' hTw hgI
          have hMr : Moves tb l' W' l' ((W'.setCell ⟨gI, i * 3 + 1, none⟩ (.int .i64 p)).setCell ⟨gI, i * 3 + 2, none⟩ (.int .i64 q)) := moves_rank hgI (i * 3 + 1) (i * 3 + 2) (.int .i64 p) (.int .i64 q)
          have hmk := mkI
          clear fI fz
          go_upto_region 18 with fail
          go_region
          obtain ⟨Wr, hWr⟩ : ∃ Wr, ((W'.setCell ⟨gI, i * 3 + 1, none⟩ (.int .i64 p)).setCell ⟨gI, i * 3 + 1 + 1, none⟩ (.int .i64 q)).drew = Wr := ⟨_, rfl⟩
          have hTr : TS Wr base tb T1 l' := by rw [← hWr]; exact HTr.out.drew
          have hMr2 : Moves tb l' W' l' Wr := by rw [← hWr]; exact hMr.trans (Moves.drew _ _ _)
          rw [hWr]
          have hKr := hKw.trans (hMr2.others hTw)
          have hMR := hMw.trans hMr2
          clear hWr HTr hMr hMr2 z1 z2 z3 z4 z5 fz1 fz2 hQe cI1 m1 m2 y0 y1 y2 y3 hlt htb t2 t3 hm0 hm1 hTe hMe hKe hbw hb' hTw hMw hKw
          go_wp2_with fail
          obtain ⟨hi1, hn1, hl1⟩ := HI1.out
          have hQr := hTr.heads.queue hq0 hn1 hTr.c8 hTr.rSA hTr.tt
          refine (fix22 Wr hQr (hH1.wf nd hn1) i hi1 hl1).mono ?_
          rintro e Wf ⟨⟨u, rfl⟩, hQf, hTf⟩
          have htf : Touch (fun j => qblocks (l'.iH.getD nd nilS) l'.vSA j ∨ j = gH) Wr Wf := hTf.mono fun _ h => .inl h
          have hTS := hTr.updH hq0 hn1 htf (qset_same (touch_q hQr hTf) hQr.it) hQf (.inl rfl)
          have hMv := moves_H hTr hq0 hn1 htf (.inl rfl)
          have hK1 := hKr.trans (hMv.others hTr)
          have hM1 := hMR.trans hMv
          clear hQf hTf htf hQr hl1 hi1 hn1 hmk
          go_wp2
          go_roundg (t - (s + 1) + 1)
          case measure => exact hgm.out
          case rel => exact ⟨s + 1, _, _, rfl, hf1.out, hTS, hM1, hK1, hH2, (hA.trans hA1).trans hA2, HL.out _ (hA1.trans hA2) (by obtain ⟨j, hj⟩ := HT1.out; exact hA2.keep s j hj), Nat.le_refl _⟩
    · have t1 : ¬ (s : Int) < (t : Int) := by omega
      go_wp2
      exact hQ _ _ _ _ (hT.keepOwn (Touch.drewN (fun _ => False) _ _) (fun _ _ x => x)) (hM.trans ⟨Touch.drewN _ _ _, fun _ h => .inl h⟩) ⟨hKO.size, hKO.same⟩ hH hA (fun s' h1 h2 => hall s' h1 (by omega) h2)
end
end Go.Proofs.Ybulkcmtm
