/- container/heap.Push, Fix, Remove over a ranked queue. -/
import Derived.Test.YbulkcmtmPop
import Derived.Deep.DeepCutAuto
namespace Go.Proofs.Ybulkcmtm
open Go.RowKit

theorem Touch.trans' {S S' : Nat → Prop} {a b c : World} (h : Touch S a b) (k : Touch S' b c) (hs : ∀ i, i < a.heap.size → S' i → S i) : Touch S a c :=
  ⟨k.os.trans h.os, k.tape.trans h.tape, k.output.trans h.output, Nat.le_trans h.size k.size, fun i hi hn => (k.block i (Nat.lt_of_lt_of_le hi h.size) (fun x => hn (hs i hi x))).trans (h.block i hi hn)⟩

section
variable {base qb qo tb ao : Nat} {v va : Value}

/-- What turns a queue's rows does not turn its own block. -/
theorem touch_q {s : Qu} {w w' : World} (h : QS w base qb qo tb ao v va s) (ht : Touch (qblocks v va) w w') : w'.heap[qb]? = w.heap[qb]? := by
  obtain ⟨c, hc⟩ := h.tq
  refine ht.block qb (Array.getElem?_eq_some_iff.1 hc).1 ?_
  rintro (e | e)
  · exact h.vq e
  · exact h.aq e

set_option maxHeartbeats 1600000 in
set_option maxRecDepth 100000 in
theorem hpush19 {s : Qu} (w : World) (h : QS w base qb qo tb ao v va s) (hw : s.WF) (x : Held) (hx : x.n < s.at_.length) (hn : ∀ y ∈ s.it, y.n ≠ x.n) (hm : s.it.length ≤ 90000) (hbase : base ≤ w.heap.size) :
    Calls Yba.prog 19 #[.iface 70 (.pointer (some ⟨qb, qo, none⟩)), .iface 72 (.agg #[.int .i64 (x.n : Int), .int .i64 x.p, .int .i64 x.q])] w fun e w' => (∃ v, e = .returned v) ∧
      ∃ v', QS w' base qb qo tb ao v' va (s.hpush x) ∧ Touch (fun k => qblocks v va k ∨ k = qb) w w' ∧ (v'.ownBlock = v.ownBlock ∨ ∃ g, v'.ownBlock = some g ∧ w.heap.size ≤ g) ∧ qset w w' qb qo v' := by
  have m1 := mPush
  have m2 := mLen
  go_enter Yba.func19, Yba.ntmps19
  go_wp2_with fail
  refine (push50 w h x hx (by omega) hbase).mono ?_
  rintro e W1 ⟨⟨u, rfl⟩, v', hQ1, hT1, ho1, hs1⟩
  obtain ⟨a, cap, rfl⟩ : ∃ a cap, v' = .slice a (s.it.length + 1) cap := by
    obtain ⟨g, cap, e⟩ := hQ1.form (by simp [Qu.push])
    exact ⟨some ⟨g, 0, none⟩, cap, by rw [e]; simp [Qu.push]⟩
  have h0 := hQ1.it
  have i1 : (s.it.length : Int) < 1000000 := by omega
  have hp := Qu.push_wf hw hx hn
  go_wp2_with (go_at_call 47; refine (len47 qb qo _ _ _ _ h0).mono ?_; rintro e' w' ⟨rfl, rfl⟩)
  refine (up27 _ hQ1 hp s.it.length (by simp [Qu.push]) (by simp [Qu.push]; omega)).mono ?_
  rintro e W2 ⟨⟨u2, rfl⟩, hQ2, hT2⟩
  go_wp2
  go_end0
  have hk2 := touch_q hQ1 hT2
  refine ⟨⟨_, rfl⟩, _, hQ2, hT1.trans' hT2 ?_, ho1, qset_keep hs1 hk2⟩
  rintro i hi (hi1 | hi2)
  · rcases ho1 with e | ⟨g, e, hg⟩
    · exact .inl (.inl (by rw [← e]; exact hi1))
    · rw [e] at hi1; cases hi1; omega
  · exact .inl (.inr hi2)

set_option maxHeartbeats 1600000 in
set_option maxRecDepth 100000 in
theorem fix22 {s : Qu} (w : World) (h : QS w base qb qo tb ao v va s) (hw : s.WF) (i : Nat) (hi : i < s.it.length) (hm : s.it.length ≤ 90000) :
    Calls Yba.prog 22 #[.iface 70 (.pointer (some ⟨qb, qo, none⟩)), .int .i64 i] w fun e w' => (∃ v, e = .returned v) ∧ QS w' base qb qo tb ao v va (s.fix i) ∧ Touch (qblocks v va) w w' := by
  have hnot : ∀ (x : Bool) (w : World), (Op.unary .not (.bool x)).run Yba.prog w = .ok (.bool (!x)) w := fun _ _ => rfl
  have m2 := mLen
  obtain ⟨g, cap, rfl⟩ := h.form (by omega)
  have h0 := h.it
  have hs := Qu.down_same hw i s.it.length (Nat.le_refl _)
  go_enter Yba.func22, Yba.ntmps22
  go_wp2_with (go_at_call 47; refine (len47 qb qo _ _ _ _ h0).mono ?_; rintro e' w' ⟨rfl, rfl⟩)
  refine (down28 _ h hw i s.it.length (Nat.le_refl _) hi (by omega)).mono ?_
  rintro e W1 ⟨rfl, hQ1, hT1⟩
  by_cases hd : i < (s.down i s.it.length).2
  · have e1 : s.fix i = (s.down i s.it.length).1 := by unfold Qu.fix; rw [if_pos hd]
    rw [decide_eq_true hd]
    go_wp2
    go_end0
    exact ⟨⟨_, rfl⟩, by rw [e1]; exact hQ1, hT1⟩
  · have e1 : s.fix i = (s.down i s.it.length).1.up i := by unfold Qu.fix; rw [if_neg hd]
    rw [decide_eq_false hd]
    go_wp2_with fail
    refine (up27 W1 hQ1 hs.wf i (by rw [hs.len]; exact hi) (by rw [hs.len]; omega)).mono ?_
    rintro e W2 ⟨⟨u2, rfl⟩, hQ2, hT2⟩
    go_wp2
    go_end0
    exact ⟨⟨_, rfl⟩, by rw [e1]; exact hQ2, hT1.trans hT2⟩

set_option maxHeartbeats 1600000 in
set_option maxRecDepth 100000 in
/-- container/heap.Remove. -/
theorem remove24 {s : Qu} (w : World) (h : QS w base qb qo tb ao v va s) (hw : s.WF) (i : Nat) (hi : i < s.it.length) (hm : s.it.length ≤ 90000) :
    Calls Yba.prog 24 #[.iface 70 (.pointer (some ⟨qb, qo, none⟩)), .int .i64 i] w fun e w' => (∃ v, e = .returned v) ∧
      ∃ v', QS w' base qb qo tb ao v' va (s.remove i) ∧ Touch (fun k => qblocks v va k ∨ k = qb) w w' ∧ v'.ownBlock = v.ownBlock ∧ qset w w' qb qo v' := by
  have hnot : ∀ (x : Bool) (w : World), (Op.unary .not (.bool x)).run Yba.prog w = .ok (.bool (!x)) w := fun _ _ => rfl
  have m1 := mLen
  have m2 := mSwap
  have m3 := mPop
  obtain ⟨m, hlm⟩ : ∃ m, s.it.length = m + 1 := ⟨s.it.length - 1, by omega⟩
  have hsink := Qu.sink_same hw hi
  have fin : ∀ W, QS W base qb qo tb ao v va (s.sink i) → Touch (qblocks v va) w W →
      Calls Yba.prog 49 #[.pointer (some ⟨qb, qo, none⟩)] W fun e w' => (∃ v, e = .returned v) ∧ ∃ v', QS w' base qb qo tb ao v' va (s.remove i) ∧ Touch (fun k => qblocks v va k ∨ k = qb) w w' ∧ v'.ownBlock = v.ownBlock ∧ qset w w' qb qo v' := by
    intro W hQ hT
    refine (pop49 W hQ hsink.wf (by rw [hsink.len]; omega) (by rw [hsink.len]; omega)).mono ?_
    rintro e W' ⟨he, v', hQ', hT', ho', hs'⟩
    have hkW := touch_q h hT
    exact ⟨he, v', hQ', (hT.mono (fun k x => .inl x)).trans hT', ho', fun c hc => hs' c (hkW.trans hc)⟩
  obtain ⟨a, cap, rfl⟩ : ∃ a cap, v = .slice a (m + 1) cap := by
    obtain ⟨g, cap, e⟩ := h.form (by omega)
    exact ⟨some ⟨g, 0, none⟩, cap, by rw [e, hlm]⟩
  have h0 := h.it
  have i1 : (m : Int) < 1000000 := by omega
  by_cases hmi : m = i
  · have e1 : s.sink i = s := by unfold Qu.sink; rw [if_pos (by omega)]
    subst hmi
    have F := fin w (by rw [e1]; exact h) (Touch.refl _ _)
    clear fin
    go_enter Yba.func24, Yba.ntmps24
    go_wp2_with (go_at_call 47; refine (len47 qb qo _ _ _ _ h0).mono ?_; rintro e' w' ⟨rfl, rfl⟩)
    refine F.mono ?_
    rintro e W1 ⟨⟨u, rfl⟩, hR⟩
    go_wp2
    go_ret
    exact ⟨⟨_, rfl⟩, hR⟩
  · have t1 : ((m : Int) != (i : Int)) = true := by simp; omega
    have hs1 := Qu.swp_same hw hi (show m < s.it.length by omega) (fun e => hmi e.symm)
    have hs2 := hs1.trans (Qu.down_same hs1.wf i m (by rw [Qu.swp_len]; omega))
    have hlm' : s.it.length - 1 = m := by omega
    have es1 : i < ((s.swp i m).down i m).2 → s.sink i = ((s.swp i m).down i m).1 := fun hd => by unfold Qu.sink; rw [hlm', if_neg hmi, if_pos hd]
    have es2 : ¬ i < ((s.swp i m).down i m).2 → s.sink i = ((s.swp i m).down i m).1.up i := fun hd => by unfold Qu.sink; rw [hlm', if_neg hmi, if_neg hd]
    have k1 : m < s.it.length := by omega
    have k2 : m ≤ s.it.length := by omega
    have HS1 : Hid (i < ((s.swp i m).down i m).2 → s.sink i = ((s.swp i m).down i m).1) := es1
    have HS2 : Hid (¬ i < ((s.swp i m).down i m).2 → s.sink i = ((s.swp i m).down i m).1.up i) := es2
    clear hlm' hlm es1 es2 hnot m3 m2
    go_enter Yba.func24, Yba.ntmps24
    go_wp2_with fail
    refine (len47 qb qo _ _ _ _ h0).mono ?_
    rintro e' w' ⟨rfl, rfl⟩
    have hne : i ≠ m := fun e => hmi e.symm
    have HN : Hid (i ≠ m) := hne
    clear m1 hmi hne
    have m2 := mSwap
    go_upto_if 11 with fail
    clear t1
    go_wp2_with fail
    refine (swap_q _ h hw i m hi k1 HN.out).mono ?_
    rintro e W1 ⟨⟨u, rfl⟩, hQ1, hT1⟩
    clear m2 h0 hsink
    have hnot : ∀ (x : Bool) (w : World), (Op.unary .not (.bool x)).run Yba.prog w = .ok (.bool (!x)) w := fun _ _ => rfl
    have m3 := mPop
    go_wp2_with fail
    refine (down28 _ hQ1 hs1.wf i m (by rw [Qu.swp_len]; exact k2) (by rw [Qu.swp_len]; exact hi) (by rw [Qu.swp_len]; omega)).mono ?_
    rintro e W2 ⟨rfl, hQ2, hT2⟩
    by_cases hd : i < ((s.swp i m).down i m).2
    · have e1 := HS1.out hd
      have F := fin W2 (by rw [e1]; exact hQ2) (hT1.trans hT2)
      rw [decide_eq_true hd]
      clear fin hd e1
      go_wp2_with fail
      refine F.mono ?_
      rintro e W3 ⟨⟨u, rfl⟩, hR⟩
      go_wp2
      go_ret
      exact ⟨⟨_, rfl⟩, hR⟩
    · have e1 := HS2.out hd
      rw [decide_eq_false hd]
      have HE : Hid (s.sink i = ((s.swp i m).down i m).1.up i) := e1
      clear hd e1
      go_wp2_with fail
      refine (up27 _ hQ2 hs2.wf i (by rw [hs2.len]; exact hi) (by rw [hs2.len]; omega)).mono ?_
      rintro e W3 ⟨⟨u3, rfl⟩, hQ3, hT3⟩
      have F := fin W3 (by rw [HE.out]; exact hQ3) ((hT1.trans hT2).trans hT3)
      clear fin
      go_wp2_with fail
      refine F.mono ?_
      rintro e W4 ⟨⟨u, rfl⟩, hR⟩
      go_wp2
      go_ret
      exact ⟨⟨_, rfl⟩, hR⟩
end
end Go.Proofs.Ybulkcmtm
