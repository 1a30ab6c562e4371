/- container/heap.down over a ranked queue. -/
import Derived.Test.YbulkcmtmUp
namespace Go.Proofs.Ybulkcmtm
open Go.RowKit

section
variable {base qb qo tb ao : Nat} {v va : Value}

set_option maxHeartbeats 4000000 in
set_option maxRecDepth 100000 in
theorem down28 {s : Qu} (w : World) (h : QS w base qb qo tb ao v va s) (hw : s.WF) (i0 n : Nat) (hn : n ≤ s.it.length) (hi0 : i0 < s.it.length) (hm : s.it.length ≤ 100000) :
    Calls Yba.prog 28 #[.iface 70 (.pointer (some ⟨qb, qo, none⟩)), .int .i64 i0, .int .i64 n] w fun e w' => e = .returned (.bool (decide (i0 < (s.down i0 n).2))) ∧ QS w' base qb qo tb ao v va (s.down i0 n).1 ∧ Touch (qblocks v va) w w' := by
  have hnot : ∀ (x : Bool) (w : World), (Op.unary .not (.bool x)).run Yba.prog w = .ok (.bool (!x)) w := fun _ _ => rfl
  have m1 := mLess
  have m2 := mSwap
  go_enter Yba.func28, Yba.ntmps28
  go_wp2_with fail
  go_loopw [7] (fun si wr => ∃ (k : Nat) (sk : Qu), si = .int .i64 k ∧ sk.it.length = s.it.length ∧ k < s.it.length ∧ QS wr base qb qo tb ao v va sk ∧ sk.WF ∧ Touch (qblocks v va) w wr ∧ Hid (s.down i0 n = sk.down k n)) (fun si _ => n - (intOf si).toNat)
  case atStart => exact ⟨i0, s, rfl, rfl, hi0, h, hw, Touch.refl _ _, rfl⟩
  case round =>
    clear h hw
    obtain ⟨k, sk, rfl, hsl, hk, hQ, hW, hT, HE⟩ := hrel
    obtain ⟨j1, hj1⟩ : ∃ j1 : Nat, 2 * (k : Int) + 1 = (j1 : Int) := ⟨2 * k + 1, by omega⟩
    have hj1' : j1 = 2 * k + 1 := by omega
    by_cases h1 : j1 < n
    · obtain ⟨j2, hj2⟩ : ∃ j2 : Nat, (j1 : Int) + 1 = (j2 : Int) := ⟨j1 + 1, by omega⟩
      have hj2' : j2 = 2 * k + 2 := by omega
      have t1 : (j1 : Int) < (n : Int) := by omega
      have t0 : ¬ (j1 : Int) < 0 := by omega
      by_cases h2 : j2 < n
      · have t2 : (j2 : Int) < (n : Int) := by omega
        cases hl2 : sk.less j2 j1 with
        | true =>
          have hch : Hid (sk.child k n = j2) := by show _ = _; unfold Qu.child; rw [← hj2', ← hj1', if_pos ⟨h2, hl2⟩]
          clear hj1' hj2'
          go_wp2_with fail
          refine (less_q _ hQ j2 j1 (by omega) (by omega)).mono ?_
          rintro e' W1 ⟨rfl, hb1⟩
          rw [hl2]
          have hQ1 := hQ.below hb1
          have hT1 := hT.trans (Touch.below hb1)
          clear hl2 t0
          cases hl : sk.less j2 k with
          | false =>
            have e : Hid (sk.down k n = (sk, k)) := by show _ = _; rw [Qu.down, dif_pos (by omega), hch.out, hl]; simp
            clear hch
            go_wp2_with fail
            refine (less_q _ hQ1 j2 k (by omega) (by omega)).mono ?_
            rintro e' W2 ⟨rfl, hb2⟩
            rw [hl]
            go_wp2
            go_ret
            exact ⟨by rw [HE.out, e.out]; rfl, by rw [HE.out, e.out]; exact hQ1.below hb2, hT1.trans (Touch.below hb2)⟩
          | true =>
            have e : Hid (sk.down k n = (sk.swp k j2).down j2 n) := by show _ = _; rw [Qu.down, dif_pos (by omega), hch.out, hl]; simp
            clear hch
            go_wp2_with fail
            refine (less_q _ hQ1 j2 k (by omega) (by omega)).mono ?_
            rintro e' W2 ⟨rfl, hb2⟩
            rw [hl]
            have hQ2 := hQ1.below hb2
            have hne : k ≠ j2 := by omega
            have hck : k < sk.it.length := by omega
            have hcc : j2 < sk.it.length := by omega
            have hms : Hid (n - j2 < n - k) := (by omega : n - j2 < n - k)
            have hcl : Hid (j2 < s.it.length) := (by omega : j2 < s.it.length)
            clear hl hQ hQ1 m1 hnot
            go_wp2_with fail
            refine (swap_q _ hQ2 hW k j2 hck hcc hne).mono ?_
            rintro e' W3 ⟨⟨v', rfl⟩, hQ3, hT3⟩
            go_wp2
            go_roundw
            case rel => exact ⟨j2, sk.swp k j2, rfl, by simpa using hsl, hcl.out, hQ3, Qu.swp_wf hW hck hcc hne, (hT1.trans (Touch.below hb2)).trans hT3, HE.out.trans e.out⟩
            case measure => simpa [intOf] using hms.out
        | false =>
          have hch : Hid (sk.child k n = j1) := by show _ = _; unfold Qu.child; rw [← hj2', ← hj1', if_neg (by rw [hl2]; simp)]
          clear hj1' hj2'
          go_wp2_with fail
          refine (less_q _ hQ j2 j1 (by omega) (by omega)).mono ?_
          rintro e' W1 ⟨rfl, hb1⟩
          rw [hl2]
          have hQ1 := hQ.below hb1
          have hT1 := hT.trans (Touch.below hb1)
          clear hl2 t0
          cases hl : sk.less j1 k with
          | false =>
            have e : Hid (sk.down k n = (sk, k)) := by show _ = _; rw [Qu.down, dif_pos (by omega), hch.out, hl]; simp
            clear hch
            go_wp2_with fail
            refine (less_q _ hQ1 j1 k (by omega) (by omega)).mono ?_
            rintro e' W2 ⟨rfl, hb2⟩
            rw [hl]
            go_wp2
            go_ret
            exact ⟨by rw [HE.out, e.out]; rfl, by rw [HE.out, e.out]; exact hQ1.below hb2, hT1.trans (Touch.below hb2)⟩
          | true =>
            have e : Hid (sk.down k n = (sk.swp k j1).down j1 n) := by show _ = _; rw [Qu.down, dif_pos (by omega), hch.out, hl]; simp
            clear hch
            go_wp2_with fail
            refine (less_q _ hQ1 j1 k (by omega) (by omega)).mono ?_
            rintro e' W2 ⟨rfl, hb2⟩
            rw [hl]
            have hQ2 := hQ1.below hb2
            have hne : k ≠ j1 := by omega
            have hck : k < sk.it.length := by omega
            have hcc : j1 < sk.it.length := by omega
            have hms : Hid (n - j1 < n - k) := (by omega : n - j1 < n - k)
            have hcl : Hid (j1 < s.it.length) := (by omega : j1 < s.it.length)
            clear hl hQ hQ1 m1 hnot
            go_wp2_with fail
            refine (swap_q _ hQ2 hW k j1 hck hcc hne).mono ?_
            rintro e' W3 ⟨⟨v', rfl⟩, hQ3, hT3⟩
            go_wp2
            go_roundw
            case rel => exact ⟨j1, sk.swp k j1, rfl, by simpa using hsl, hcl.out, hQ3, Qu.swp_wf hW hck hcc hne, (hT1.trans (Touch.below hb2)).trans hT3, HE.out.trans e.out⟩
            case measure => simpa [intOf] using hms.out
      · have t2 : ¬ (j2 : Int) < (n : Int) := by omega
        have hch : Hid (sk.child k n = j1) := by show _ = _; unfold Qu.child; rw [← hj2', ← hj1', if_neg (fun x => h2 x.1)]
        clear hj1' hj2'
        have hQ1 := hQ
        have hT1 := hT
        cases hl : sk.less j1 k with
        | false =>
          have e : Hid (sk.down k n = (sk, k)) := by show _ = _; rw [Qu.down, dif_pos (by omega), hch.out, hl]; simp
          clear hch
          go_wp2_with fail
          refine (less_q _ hQ1 j1 k (by omega) (by omega)).mono ?_
          rintro e' W2 ⟨rfl, hb2⟩
          rw [hl]
          go_wp2
          go_ret
          exact ⟨by rw [HE.out, e.out]; rfl, by rw [HE.out, e.out]; exact hQ1.below hb2, hT1.trans (Touch.below hb2)⟩
        | true =>
          have e : Hid (sk.down k n = (sk.swp k j1).down j1 n) := by show _ = _; rw [Qu.down, dif_pos (by omega), hch.out, hl]; simp
          clear hch
          go_wp2_with fail
          refine (less_q _ hQ1 j1 k (by omega) (by omega)).mono ?_
          rintro e' W2 ⟨rfl, hb2⟩
          rw [hl]
          have hQ2 := hQ1.below hb2
          have hne : k ≠ j1 := by omega
          have hck : k < sk.it.length := by omega
          have hcc : j1 < sk.it.length := by omega
          have hms : Hid (n - j1 < n - k) := (by omega : n - j1 < n - k)
          have hcl : Hid (j1 < s.it.length) := (by omega : j1 < s.it.length)
          clear hl hQ hQ1 m1 hnot
          go_wp2_with fail
          refine (swap_q _ hQ2 hW k j1 hck hcc hne).mono ?_
          rintro e' W3 ⟨⟨v', rfl⟩, hQ3, hT3⟩
          go_wp2
          go_roundw
          case rel => exact ⟨j1, sk.swp k j1, rfl, by simpa using hsl, hcl.out, hQ3, Qu.swp_wf hW hck hcc hne, (hT1.trans (Touch.below hb2)).trans hT3, HE.out.trans e.out⟩
          case measure => simpa [intOf] using hms.out
    · have e : Hid (sk.down k n = (sk, k)) := by show _ = _; rw [Qu.down, dif_neg (by omega)]
      have t1 : (n : Int) ≤ (j1 : Int) := by omega
      clear hj1' h1
      go_wp2
      go_ret
      exact ⟨by rw [HE.out, e.out]; rfl, by rw [HE.out, e.out]; exact hQ, hT⟩
end
end Go.Proofs.Ybulkcmtm
