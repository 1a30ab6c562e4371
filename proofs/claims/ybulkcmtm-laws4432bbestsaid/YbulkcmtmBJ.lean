/- THE TREE OF THE LAW ON bestWhere, JOIN BY JOIN. No Go in sight. -/
import Derived.Test.YbulkcmtmBI
namespace Go.Proofs.Ybulkcmtm

/-- n of m items have joined. -/
structure BI (T : Tree) (o m ex n N : Nat) (ko : Nat → Nat) (gp : Nat → Int) (cs : Nat → List (Int × Int)) : Prop where
  ol : T.off.length = o
  al : T.oAt.length = m
  sl : T.so.length = o
  lv : T.lv = 2 ^ ex
  hd : T.hd.length = 2 * 2 ^ ex
  wf : ∀ k, k < o → (oq T k).WF
  mem : ∀ k, k < o → ∀ y, y ∈ T.off.getD k [] ↔ (y.n < n ∧ ko y.n = k ∧ y.p = gp y.n ∧ y.q = (y.n : Int))
  hw : HW T
  so : ∀ k, k < o → (T.off.getD k [] = [] ∧ T.so[k]? = some (-1, -1)) ∨ (∃ f t : Nat, T.so[k]? = some ((f : Int), (t : Int)) ∧ t ≤ T.st.length ∧ ∀ nd ∈ covs ex (cs k), ∃ s : Nat, T.st[s]? = some ((k : Int), (nd : Int)) ∧ ∃ j : Nat, T.sAt[s]? = some (j : Int))
  st : ∀ (s : Nat) (k nd : Int), T.st[s]? = some (k, nd) → ∃ kk nn : Nat, k = kk ∧ nd = nn ∧ kk < o ∧ nn ∈ covs ex (cs kk)
  bd : T.st.length + 16 * N * (T.so.countP fun p => decide (p = (-1, -1))) ≤ 16 * N * o

theorem not_neg {f t : Nat} (h : (((f : Int), (t : Int)) : Int × Int) = (-1, -1)) : False := by
  have := (Prod.mk.inj h).1
  omega

theorem BI.join {T T' : Tree} {o m ex n N : Nat} {ko : Nat → Nat} {gp : Nat → Int} {cs : Nat → List (Int × Int)} (h : BI T o m ex n N ko gp cs) (hn : n < m) (hko : ko n < o) (hex : ex ≤ 4) (hcs : (cs (ko n)).length ≤ N) (hJ : Joined T T' (ko n) ex ⟨n, gp n, (n : Int)⟩ (cs (ko n))) : BI T' o m ex (n + 1) N ko gp cs := by
  obtain ⟨k, hk⟩ : ∃ k, ko n = k := ⟨_, rfl⟩
  rw [hk] at hko hcs hJ
  have hkl : k < T.off.length := by rw [h.ol]; exact hko
  have hno : ∀ y ∈ T.off.getD k [], y.n ≠ n := fun y hy e => by have := ((h.mem k hko y).1 hy).1; omega
  obtain ⟨hw, hm, hl, hout⟩ := Qu.hpush_spec (h.wf k hko) (x := ⟨n, gp n, (n : Int)⟩) (show n < T.oAt.length by rw [h.al]; exact hn) hno
  have gk : ∀ j, T'.off.getD j [] = if j = k then ((oq T k).hpush ⟨n, gp n, (n : Int)⟩).it else T.off.getD j [] := fun j => by rw [hJ.off]; exact getD_set' hkl j
  have hne : T'.off.getD k [] ≠ [] := by
    rw [gk, if_pos rfl]
    intro e
    have := (hm ⟨n, gp n, (n : Int)⟩).2 (.inr rfl)
    rw [e] at this; cases this
  -- AN OFFER'S FIRST ITEM COMES TO LIE FIRST
  have hfirst : T.off.getD k [] = [] → T'.oAt[n]? = some 0 := by
    intro e
    have e1 : (oq T k).it = [] := e
    rw [hJ.oAt]
    have : (oq T k).hpush ⟨n, gp n, (n : Int)⟩ = (oq T k).push ⟨n, gp n, (n : Int)⟩ := by
      unfold Qu.hpush; rw [e1]; rw [List.length_nil, Qu.up]; simp
    rw [this]
    simp only [Qu.push, e1, List.length_nil]
    have hnl : n < (oq T k).at_.length := by show n < T.oAt.length; rw [h.al]; exact hn
    rw [List.getElem?_set_self hnl]
    rfl
  have hother : ∀ j, j ≠ k → T'.off.getD j [] = T.off.getD j [] := fun j hj => by rw [gk, if_neg hj]
  -- THE STANDS
  have key : (∀ j, j < o → (T'.off.getD j [] = [] ∧ T'.so[j]? = some (-1, -1)) ∨ (∃ f t : Nat, T'.so[j]? = some ((f : Int), (t : Int)) ∧ t ≤ T'.st.length ∧ ∀ nd ∈ covs ex (cs j), ∃ s : Nat, T'.st[s]? = some ((j : Int), (nd : Int)) ∧ ∃ i : Nat, T'.sAt[s]? = some (i : Int))) ∧
      (∀ (s : Nat) (a b : Int), T'.st[s]? = some (a, b) → ∃ kk nn : Nat, a = kk ∧ b = nn ∧ kk < o ∧ nn ∈ covs ex (cs kk)) ∧ T'.st.length + 16 * N * (T'.so.countP fun p => decide (p = (-1, -1))) ≤ 16 * N * o := by
    by_cases hz : T'.oAt[n]? = some 0
    · obtain ⟨T2, f, t, hS, hA, hso, hle, hall⟩ := hJ.new hz
      rcases hS with ⟨rfl, f0, t0, hold⟩ | ⟨hold, rfl⟩
      · have e1 : T'.st = T.st := hA.st
        have e2 : T'.so = T.so := hA.so
        refine ⟨?_, by rw [e1]; exact h.st, by rw [e1, e2]; exact h.bd⟩
        intro j hj
        rw [e1, e2]
        rcases h.so j hj with ⟨x1, x2⟩ | ⟨f1, t1, x1, x2, x3⟩
        · by_cases ej : j = k
          · subst ej
            rw [hold] at x2
            exact (not_neg (Option.some.inj x2)).elim
          · left; rw [hother j ej]; exact ⟨x1, x2⟩
        · right
          refine ⟨f1, t1, x1, x2, fun nd hnd => ?_⟩
          obtain ⟨s, y1, i, y2⟩ := x3 nd hnd
          exact ⟨s, y1, hA.keep s i y2⟩
      · have e1 : T'.st = T.st ++ (covs ex (cs k)).map (fun m : Nat => ((k : Int), (m : Int))) := hA.st
        have e2 : T'.so = T.so.set k ((T.st.length : Int), ((T.st.length + (covs ex (cs k)).length : Nat) : Int)) := hA.so
        have hksl : k < T.so.length := by rw [h.sl]; exact hko
        have hft : f = T.st.length ∧ t = T.st.length + (covs ex (cs k)).length := by
          have h1 : (T.so.set k ((T.st.length : Int), ((T.st.length + (covs ex (cs k)).length : Nat) : Int)))[k]? = some ((f : Int), (t : Int)) := hso
          rw [List.getElem?_set_self hksl] at h1
          have := Prod.mk.inj (Option.some.inj h1)
          omega
        have hlen : T'.st.length = T.st.length + (covs ex (cs k)).length := by rw [e1]; simp
        refine ⟨?_, ?_, ?_⟩
        · intro j hj
          by_cases ej : j = k
          · subst ej
            right
            refine ⟨T.st.length, T.st.length + (covs ex (cs j)).length, by rw [e2]; exact List.getElem?_set_self hksl, by omega, fun nd hnd => ?_⟩
            obtain ⟨q, hq, hqe⟩ := List.mem_iff_getElem.1 hnd
            refine ⟨T.st.length + q, ?_, hall (T.st.length + q) (by omega) (by omega)⟩
            rw [e1, List.getElem?_append_right (by omega), show T.st.length + q - T.st.length = q by omega, List.getElem?_map, List.getElem?_eq_getElem hq, hqe]
            rfl
          · rcases h.so j hj with ⟨x1, x2⟩ | ⟨f1, t1, x1, x2, x3⟩
            · left
              rw [hother j ej]
              exact ⟨x1, by rw [e2, List.getElem?_set_ne (Ne.symm ej)]; exact x2⟩
            · right
              refine ⟨f1, t1, by rw [e2, List.getElem?_set_ne (Ne.symm ej)]; exact x1, by omega, fun nd hnd => ?_⟩
              obtain ⟨s, y1, i, y2⟩ := x3 nd hnd
              refine ⟨s, ?_, hA.keep s i ?_⟩
              · rw [e1, List.getElem?_append_left (List.getElem?_eq_some_iff.1 y1).1]; exact y1
              · show (T.sAt ++ (covs ex (cs k)).map (fun _ => -1))[s]? = _
                rw [List.getElem?_append_left (List.getElem?_eq_some_iff.1 y2).1]; exact y2
        · intro s a b hs
          rw [e1] at hs
          by_cases hsl : s < T.st.length
          · rw [List.getElem?_append_left hsl] at hs; exact h.st s a b hs
          · rw [List.getElem?_append_right (by omega), List.getElem?_map] at hs
            cases he : (covs ex (cs k))[s - T.st.length]? with
            | none => rw [he] at hs; cases hs
            | some nd =>
              rw [he] at hs
              simp at hs
              obtain ⟨rfl, rfl⟩ := hs
              exact ⟨k, nd, rfl, rfl, hko, List.mem_of_getElem? he⟩
        · have hcnt : (T'.so.countP fun p => decide (p = (-1, -1))) + 1 = T.so.countP fun p => decide (p = (-1, -1)) := by
            obtain ⟨hlt, hge⟩ := List.getElem?_eq_some_iff.1 hold
            rw [e2, List.countP_set hksl, hge]
            have hpos : 0 < T.so.countP fun p => decide (p = (-1, -1)) := List.countP_pos_iff.2 ⟨(-1, -1), List.mem_of_getElem? hold, by simp⟩
            have hnn : decide ((((T.st.length : Int), ((T.st.length + (covs ex (cs k)).length : Nat) : Int)) : Int × Int) = (-1, -1)) = false := by
              refine decide_eq_false fun x => not_neg x
            rw [hnn]
            simp
            omega
          have hbd := h.bd
          have hcl := covs_len hex (cs k)
          have hcl2 : (cs k).length * 16 ≤ N * 16 := Nat.mul_le_mul_right _ hcs
          rw [hlen]
          rw [← hcnt, Nat.mul_add] at hbd
          omega
    · obtain ⟨e1, e2, e3⟩ := hJ.out hz
      refine ⟨?_, by rw [e1]; exact h.st, by rw [e1, e2]; exact h.bd⟩
      intro j hj
      rw [e1, e2, e3]
      rcases h.so j hj with ⟨x1, x2⟩ | x
      · by_cases ej : j = k
        · subst ej; exact absurd (hfirst x1) hz
        · left; rw [hother j ej]; exact ⟨x1, x2⟩
      · exact .inr x
  refine ⟨by rw [hJ.off]; simp [h.ol], by rw [hJ.oAt, hl]; exact h.al, hJ.sol.trans h.sl, hJ.lv.trans h.lv, hJ.hl.trans h.hd, ?_, ?_, hJ.hw, key.1, key.2.1, key.2.2⟩
  · intro j hj
    have eo : oq T' j = ⟨T'.off.getD j [], ((oq T k).hpush ⟨n, gp n, (n : Int)⟩).at_⟩ := by simp only [oq]; rw [hJ.oAt]; rfl
    rw [eo, gk]
    by_cases e : j = k
    · rw [if_pos e]; exact hw
    · rw [if_neg e]
      intro i hi
      have h0 := h.wf j hj i hi
      have hmm := (h.mem j hj _).1 (Qu.g_mem (oq T j) hi)
      refine ⟨by rw [hl]; exact h0.1, ?_⟩
      show ((oq T k).hpush ⟨n, gp n, (n : Int)⟩).at_[((oq T j).g i).n]? = _
      rw [hout ((oq T j).g i).n (by show _ ≠ n; omega) (by
        intro y hy e'
        have := ((h.mem k hko y).1 hy).2.1
        rw [e', hmm.2.1] at this
        exact e this)]
      exact h0.2
  · intro j hj y
    rw [gk]
    by_cases e : j = k
    · subst e
      rw [if_pos rfl, hm]
      have := h.mem j hj y
      constructor
      · rintro (x | rfl)
        · obtain ⟨a, b, c, d⟩ := this.1 x
          exact ⟨by omega, b, c, d⟩
        · exact ⟨Nat.lt_succ_self _, hk, rfl, rfl⟩
      · rintro ⟨a, b, c, d⟩
        by_cases en : y.n = n
        · right
          obtain ⟨yn, yp, yq⟩ := y
          simp only at en c d
          subst en
          rw [c, d]
        · left
          exact this.2 ⟨by omega, b, c, d⟩
    · rw [if_neg e, h.mem j hj y]
      constructor
      · rintro ⟨a, b, r⟩; exact ⟨by omega, b, r⟩
      · rintro ⟨a, b, r⟩
        refine ⟨?_, b, r⟩
        have : y.n ≠ n := by rintro en; rw [en, hk] at b; exact e b.symm
        omega

/-- WHOM bestWhere VISITS. -/
theorem BI.visits_iff {T : Tree} {o m ex n N i : Nat} {ko : Nat → Nat} {gp : Nat → Int} {cs : Nat → List (Int × Int)} (h : BI T o m ex n N ko gp cs) (hi : i < 2 ^ ex) (hko : ∀ x, x < n → ko x < o) (y : Held) :
    y ∈ visits T (2 ^ ex + i) ↔ (y.n < n ∧ y.p = gp y.n ∧ y.q = (y.n : Int) ∧ ∃ c ∈ cs (ko y.n), c.1 ≤ (i : Int) ∧ (i : Int) < c.2) := by
  rw [visits_mem]
  constructor
  · rintro ⟨d, h0, hy⟩
    have hlt : (2 ^ ex + i) / 2 ^ d < T.hd.length := by
      rw [h.hd]
      have := Nat.div_le_self (2 ^ ex + i) (2 ^ d)
      omega
    obtain ⟨hh, hhm, hyo⟩ := List.mem_flatMap.1 hy
    obtain ⟨⟨a, b⟩, hp, hp2⟩ := h.hw.mem _ hlt hh hhm
    obtain ⟨kk, nn, rfl, hb, hkk, hnn⟩ := h.st _ _ _ hp
    have e1 : T.st.getD hh.n (0, 0) = ((kk : Int), b) := by rw [List.getD_eq_getElem?_getD, hp]; rfl
    rw [e1] at hyo
    have hyo' : y ∈ T.off.getD kk [] := by simpa using hyo
    obtain ⟨y1, y2, y3, y4⟩ := (h.mem kk hkk y).1 hyo'
    obtain ⟨c, hc, hcn⟩ := List.mem_flatMap.1 hnn
    refine ⟨y1, y3, y4, c, by rw [y2]; exact hc, (cov_hit hi c.1 c.2).1 ⟨d, ?_⟩⟩
    have : (2 ^ ex + i) / 2 ^ d = nn := by
      simp only at hp2
      rw [hb] at hp2
      omega
    rw [this]; exact hcn
  · rintro ⟨y1, y3, y4, c, hc, hci⟩
    have hk := hko y.n y1
    have hyo : y ∈ T.off.getD (ko y.n) [] := (h.mem _ hk y).2 ⟨y1, rfl, y3, y4⟩
    obtain ⟨d, hd⟩ := (cov_hit hi c.1 c.2).2 hci
    rcases h.so (ko y.n) hk with ⟨x1, _⟩ | ⟨f, t, _, _, x3⟩
    · rw [x1] at hyo; cases hyo
    · obtain ⟨s, z1, j, z2⟩ := x3 _ (List.mem_flatMap.2 ⟨c, hc, hd⟩)
      rcases h.hw.place s (List.getElem?_eq_some_iff.1 z2).1 with e | ⟨i', nd', o', w1, w2, w3, w4, w5⟩
      · rw [z2] at e
        have := Option.some.inj e
        omega
      · rw [z1] at w2
        have hnd := (Prod.mk.inj (Option.some.inj w2)).2
        have hnd' : (2 ^ ex + i) / 2 ^ d = nd' := by omega
        refine ⟨d, ?_, ?_⟩
        · have := cov_sound (E := 2 ^ ex) ex 1 0 (by omega) (by omega) _ hd
          obtain ⟨e, lm, k1, _⟩ := this
          intro h0
          rw [h0] at k1
          have := Nat.two_pow_pos ex
          omega
        · rw [hnd']
          refine List.mem_flatMap.2 ⟨(hq T nd').g i', Qu.g_mem (hq T nd') w4, ?_⟩
          rw [w5]
          have e1 : T.st.getD s (0, 0) = ((ko y.n : Int), (((2 ^ ex + i) / 2 ^ d : Nat) : Int)) := by rw [List.getD_eq_getElem?_getD, z1]; rfl
          rw [e1]
          simpa using hyo

theorem visit_len (T : Tree) (X : Nat) (hX : ∀ k, (T.off.getD k []).length ≤ X) (hs : List Held) : (visit T hs).length ≤ hs.length * X := by
  induction hs with
  | nil => simp [visit]
  | cons x xs ih =>
    have e : visit T (x :: xs) = T.off.getD ((T.st.getD x.n (0, 0)).1.toNat) [] ++ visit T xs := by simp [visit]
    rw [e, List.length_append, List.length_cons, Nat.add_mul, Nat.one_mul]
    have := hX ((T.st.getD x.n (0, 0)).1.toNat)
    omega

theorem visits_len (T : Tree) (X Y : Nat) (hX : ∀ k, (T.off.getD k []).length ≤ X) (hY : ∀ k, (T.hd.getD k []).length ≤ Y) (f : Nat) : ∀ k, k < 2 ^ f → (visits T k).length ≤ f * (Y * X) := by
  induction f with
  | zero => intro k hk; have : k = 0 := by omega
            subst this; rw [visits_zero]; simp
  | succ f ih =>
    intro k hk
    by_cases h0 : k = 0
    · subst h0; rw [visits_zero]; simp
    · rw [visits_pos T h0, List.length_append, Nat.add_mul, Nat.one_mul]
      have h1 := ih (k / 2) (by rw [Nat.pow_succ] at hk; omega)
      have h2 := visit_len T X hX (T.hd.getD k [])
      have h3 : (T.hd.getD k []).length * X ≤ Y * X := Nat.mul_le_mul_right _ (hY k)
      omega
end Go.Proofs.Ybulkcmtm
