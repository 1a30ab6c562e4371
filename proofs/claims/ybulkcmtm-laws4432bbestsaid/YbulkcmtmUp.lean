/- container/heap.up, down over a ranked queue. -/
import Derived.Test.YbulkcmtmSwap
namespace Go.Proofs.Ybulkcmtm
open Go.RowKit

theorem mLess (p : Option Addr) (w : World) : (method 212 70 (.pointer p) "Less").run Yba.prog w = .ok (48, .pointer p) w := by kernel_rfl
theorem mSwap (p : Option Addr) (w : World) : (method 212 70 (.pointer p) "Swap").run Yba.prog w = .ok (51, .pointer p) w := by kernel_rfl
theorem mLen (p : Option Addr) (w : World) : (method 212 70 (.pointer p) "Len").run Yba.prog w = .ok (47, .pointer p) w := by kernel_rfl
theorem mPush (p : Option Addr) (w : World) : (method 212 70 (.pointer p) "Push").run Yba.prog w = .ok (50, .pointer p) w := by kernel_rfl
theorem mPop (p : Option Addr) (w : World) : (method 212 70 (.pointer p) "Pop").run Yba.prog w = .ok (49, .pointer p) w := by kernel_rfl

section
variable {base qb qo tb ao : Nat} {v va : Value}

set_option maxHeartbeats 4000000 in
set_option maxRecDepth 100000 in
theorem up27 {s : Qu} (w : World) (h : QS w base qb qo tb ao v va s) (hw : s.WF) (j : Nat) (hj : j < s.it.length) (hm : s.it.length ≤ 100000) :
    Calls Yba.prog 27 #[.iface 70 (.pointer (some ⟨qb, qo, none⟩)), .int .i64 j] w fun e w' => (∃ v, e = .returned v) ∧ QS w' base qb qo tb ao v va (s.up j) ∧ Touch (qblocks v va) w w' := by
  have hnot : ∀ (x : Bool) (w : World), (Op.unary .not (.bool x)).run Yba.prog w = .ok (.bool (!x)) w := fun _ _ => rfl
  have m1 := mLess
  have m2 := mSwap
  have hjm : (j : Int) < 1000000 := by omega
  go_enter Yba.func27, Yba.ntmps27
  go_wp2_with fail
  go_loopw [1, 4] (fun sj _ wr => ∃ (k : Nat) (sk : Qu), sj = .int .i64 k ∧ k < sk.it.length ∧ k ≤ j ∧ QS wr base qb qo tb ao v va sk ∧ sk.WF ∧ Touch (qblocks v va) w wr ∧ Hid (s.up j = sk.up k)) (fun sj _ _ => (intOf sj).toNat)
  case atStart => exact ⟨j, s, rfl, hj, Nat.le_refl _, h, hw, Touch.refl _ _, rfl⟩
  case round =>
    clear h hw hj hm
    obtain ⟨k, sk, rfl, hk, hkj, hQ, hW, hT, HE⟩ := hrel
    by_cases h0 : k = 0
    · subst h0
      go_wp2
      go_end0
      have e : sk.up 0 = sk := by rw [Qu.up]; simp
      exact ⟨⟨_, rfl⟩, by rw [HE.out, e]; exact hQ, hT⟩
    · have hd : ((k : Int) - 1).tdiv 2 = (((k - 1) / 2 : Nat) : Int) := by
        rw [Int.tdiv_eq_ediv_of_nonneg (by omega)]; omega
      obtain ⟨i, hi⟩ : ∃ i, (k - 1) / 2 = i := ⟨_, rfl⟩
      rw [hi] at hd
      have hik : ¬ ((i : Int) = (k : Int)) := by omega
      have hil : i < sk.it.length := by omega
      cases hl : sk.less k i with
      | false =>
        have e : sk.up k = sk := by rw [Qu.up, dif_neg h0, hi, hl]; simp
        go_wp2_with (go_at_call 48; refine (less_q _ hQ k i hk hil).mono ?_; rintro e' W1 ⟨rfl, hb1⟩; rw [hl])
        go_end0
        exact ⟨⟨_, rfl⟩, by rw [HE.out, e]; exact hQ.below hb1, hT.trans (Touch.below hb1)⟩
      | true =>
        have e : Hid (sk.up k = (sk.swp i k).up i) := by show _ = _; rw [Qu.up, dif_neg h0, hi, hl]; simp
        go_wp2_with fail
        refine (less_q _ hQ k i hk hil).mono ?_
        rintro e' W1 ⟨rfl, hb1⟩
        rw [hl]
        clear hl
        have hQ1 := hQ.below hb1
        have hlt : Hid (i < k) := (by omega : i < k)
        clear m1 hnot hd hi hjm
        go_wp2_with fail
        refine (swap_q _ hQ1 hW i k hil hk (Nat.ne_of_lt hlt.out)).mono ?_
        rintro e' W2 ⟨⟨v', rfl⟩, hQ2, hT2⟩
        go_wp2
        go_roundw
        case rel => exact ⟨i, sk.swp i k, rfl, by simpa using hil, Nat.le_trans (Nat.le_of_lt hlt.out) hkj, hQ2, Qu.swp_wf hW hil hk (Nat.ne_of_lt hlt.out), (hT.trans (Touch.below hb1)).trans hT2, HE.out.trans e.out⟩
        case measure => simpa [intOf] using hlt.out
end
end Go.Proofs.Ybulkcmtm
