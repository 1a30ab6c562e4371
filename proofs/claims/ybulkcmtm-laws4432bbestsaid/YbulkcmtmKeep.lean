/- zzs4432bkeep, zzs4432boffered, zzs4432bcover, and the closure that the law hands to bestWhere. -/
import Derived.Test.YbulkcmtmCover
import Derived.RangeFuncBox
import Derived.Deep.LoopGhost
namespace Go.Proofs.Ybulkcmtm
open Go.RowKit

/-- keep, as a plain function. -/
def keepv (n : Nat) (ks : Nat → Bool) (x : Nat) : Bool := if n = 0 then true else ks (x % n)

/-- A slice of stretches in memory. -/
def Row3 (w : World) (N : Nat) (sa : Option Addr) (n : Nat) (fo fa fb : Nat → Nat) : Prop := ∀ j, j < n → ∃ b off, sa = some ⟨b, off, none⟩ ∧ b < N ∧ w.cell? ⟨b, off + j * 3, none⟩ = some (.int .u8 (fo j : Int)) ∧ w.cell? ⟨b, off + j * 3 + 1, none⟩ = some (.int .u8 (fa j : Int)) ∧ w.cell? ⟨b, off + j * 3 + 2, none⟩ = some (.int .u8 (fb j : Int)) ∧ fo j ≤ 255 ∧ fa j ≤ 255 ∧ fb j ≤ 255
/-- A slice of items in memory. -/
def Row2 (w : World) (N : Nat) (sa : Option Addr) (n : Nat) (go : Nat → Nat) (gp : Nat → Int) : Prop := ∀ j, j < n → ∃ b off, sa = some ⟨b, off, none⟩ ∧ b < N ∧ w.cell? ⟨b, off + j * 2, none⟩ = some (.int .u8 (go j : Int)) ∧ w.cell? ⟨b, off + j * 2 + 1, none⟩ = some (.int .i8 (gp j)) ∧ go j ≤ 255 ∧ -128 ≤ gp j ∧ gp j ≤ 127
/-- A slice of bools in memory. -/
def Row1 (w : World) (N : Nat) (sa : Option Addr) (n : Nat) (ks : Nat → Bool) : Prop := ∀ j, j < n → ∃ b off, sa = some ⟨b, off, none⟩ ∧ b < N ∧ w.cell? ⟨b, off + j, none⟩ = some (.bool (ks j))

theorem Row3.below {w w' : World} {N : Nat} {sa : Option Addr} {n : Nat} {fo fa fb : Nat → Nat} (h : Row3 w N sa n fo fa fb) (hb : Below N w w') : Row3 w' N sa n fo fa fb := by
  intro j hj
  obtain ⟨b, off, e, hlt, c0, c1, c2, r⟩ := h j hj
  exact ⟨b, off, e, hlt, (hb.cell (p := ⟨b, off + j * 3, none⟩) hlt).trans c0, (hb.cell (p := ⟨b, off + j * 3 + 1, none⟩) hlt).trans c1, (hb.cell (p := ⟨b, off + j * 3 + 2, none⟩) hlt).trans c2, r⟩
theorem Row2.below {w w' : World} {N : Nat} {sa : Option Addr} {n : Nat} {go : Nat → Nat} {gp : Nat → Int} (h : Row2 w N sa n go gp) (hb : Below N w w') : Row2 w' N sa n go gp := by
  intro j hj
  obtain ⟨b, off, e, hlt, c0, c1, r⟩ := h j hj
  exact ⟨b, off, e, hlt, (hb.cell (p := ⟨b, off + j * 2, none⟩) hlt).trans c0, (hb.cell (p := ⟨b, off + j * 2 + 1, none⟩) hlt).trans c1, r⟩
theorem Row1.below {w w' : World} {N : Nat} {sa : Option Addr} {n : Nat} {ks : Nat → Bool} (h : Row1 w N sa n ks) (hb : Below N w w') : Row1 w' N sa n ks := by
  intro j hj
  obtain ⟨b, off, e, hlt, c0⟩ := h j hj
  exact ⟨b, off, e, hlt, (hb.cell (p := ⟨b, off + j, none⟩) hlt).trans c0⟩

set_option maxRecDepth 100000 in
theorem keep10 (sa : Option Addr) (n cap x N : Nat) (ks : Nat → Bool) (w : World) (h : Row1 w N sa n ks) (hx : x ≤ 100000) :
    Calls Yba.prog 10 #[.slice sa n cap, .int .i64 x] w fun e w' => e = .returned (.bool (keepv n ks x)) ∧ w' = w := by
  by_cases h0 : n = 0
  · subst h0
    go_enter Yba.func10, Yba.ntmps10
    go_wp2
    go_ret
    exact ⟨by simp [keepv], rfl⟩
  · have hlt : x % n < n := Nat.mod_lt _ (by omega)
    obtain ⟨b, off, rfl, _, c⟩ := h (x % n) hlt
    obtain ⟨m, hm⟩ : ∃ m, x % n = m := ⟨_, rfl⟩
    rw [hm] at c hlt
    have e1 : (x : Int).tmod (n : Int) = (m : Int) := by rw [Int.tmod_eq_emod_of_nonneg (by omega), ← hm]; omega
    have e2 : ¬ ((n : Int) = 0) := by omega
    have e3 : (0 : Int) ≤ (m : Int) := by omega
    have e4 : (m : Int) < (n : Int) := by omega
    have hr : keepv n ks x = ks m := by simp [keepv, h0, hm]
    have wr : IntKind.i64.wrap (m : Int) = (m : Int) := by
      have : x % n ≤ x := Nat.mod_le _ _
      rw [IntKind.wrap_i64]; omega
    clear h
    go_enter Yba.func10, Yba.ntmps10
    go_wp2
    go_ret
    exact ⟨by rw [hr]; rfl, rfl⟩

/-- The stretches of offer k hold leaf i. -/
def Hit (n : Nat) (fo fa fb : Nat → Nat) (o l k i : Nat) (j : Nat) : Prop := j < n ∧ fo j % o = k ∧ fa j % (l + 1) ≤ i ∧ i < fb j % (l + 1)

def hitB (n : Nat) (fo fa fb : Nat → Nat) (o l k i : Nat) : Bool := (List.range n).any fun j => fo j % o == k && decide (fa j % (l + 1) ≤ i) && decide (i < fb j % (l + 1))
theorem hitB_iff (n : Nat) (fo fa fb : Nat → Nat) (o l k i : Nat) : hitB n fo fa fb o l k i = true ↔ ∃ j, Hit n fo fa fb o l k i j := by
  simp only [hitB, List.any_eq_true, List.mem_range, Bool.and_eq_true, beq_iff_eq, decide_eq_true_eq, Hit]
  constructor
  · rintro ⟨j, h1, ⟨h2, h3⟩, h4⟩; exact ⟨j, h1, h2, h3, h4⟩
  · rintro ⟨j, h1, h2, h3, h4⟩; exact ⟨j, h1, ⟨h2, h3⟩, h4⟩

set_option maxHeartbeats 1000000 in
set_option maxRecDepth 100000 in
theorem offered11 (sa : Option Addr) (n cap N o l k i : Nat) (fo fa fb : Nat → Nat) (w : World) (h : Row3 w N sa n fo fa fb) (hn : n ≤ 300) (ho : 1 ≤ o) (ho4 : o ≤ 4) (hl : l ≤ 16) (hi : i ≤ 100) (hk : k ≤ 100) :
    Calls Yba.prog 11 #[.slice sa n cap, .int .i64 o, .int .i64 l, .int .i64 k, .int .i64 i] w fun e w' => e = .returned (.bool (hitB n fo fa fb o l k i)) ∧ Below w.heap.size w w' := by
  have HR : Hid (Row3 w N sa n fo fa fb) := h
  have HN : Hid (n ≤ 300) := hn
  have hl1 : (0 : Int) ≤ (l : Int) := by omega
  have wl : IntKind.i64.wrap ((l : Int) + 1) = (l : Int) + 1 := by rw [IntKind.wrap_i64]; omega
  have ho0 : ¬ ((o : Int) = 0) := by omega
  have hl0 : ¬ ((l : Int) + 1 = 0) := by omega
  have HO : Hid (1 ≤ o ∧ o ≤ 4 ∧ l ≤ 16 ∧ i ≤ 100 ∧ k ≤ 100) := ⟨ho, ho4, hl, hi, hk⟩
  clear h hn ho ho4 hl hi hk
  go_enter Yba.func11, Yba.ntmps11
  go_wp2_with fail
  go_loopg [11] (n + 1) (fun gh v wr => ∃ j : Nat, v = .int .i64 j ∧ j ≤ n ∧ Below w.heap.size w wr ∧ (∀ j', j' < j → ¬ Hit n fo fa fb o l k i j') ∧ n + 1 - j ≤ gh)
  case atStart => exact ⟨0, rfl, Nat.zero_le _, Below.refl _ _, fun _ h => absurd h (by omega), Nat.le_refl _⟩
  case round =>
    obtain ⟨j, rfl, hj, hb, hno, hgh⟩ := hrel
    have Hno : Hid (∀ j', j' < j → ¬ Hit n fo fa fb o l k i j') := hno
    clear hno
    by_cases hjn : j < n
    · obtain ⟨b, off, rfl, hbN, c0, c1, c2, r0, r1, r2⟩ := HR.out j hjn
      have t1 : (j : Int) < (n : Int) := by omega
      have t0 : (0 : Int) ≤ (j : Int) := by omega
      have d0 := cell_below hb c0
      have d1 := cell_below hb c1
      have d2 := cell_below hb c2
      obtain ⟨ho, ho4, hl, hi, hk⟩ := HO.out
      have hn300 := HN.out
      obtain ⟨vo, hvo⟩ : ∃ vo, fo j = vo := ⟨_, rfl⟩
      obtain ⟨va, hva⟩ : ∃ va, fa j = va := ⟨_, rfl⟩
      obtain ⟨vb, hvb⟩ : ∃ vb, fb j = vb := ⟨_, rfl⟩
      rw [hvo] at d0 r0
      rw [hva] at d1 r1
      rw [hvb] at d2 r2
      obtain ⟨m, hm⟩ : ∃ m, vo % o = m := ⟨_, rfl⟩
      obtain ⟨ma, hma⟩ : ∃ ma, va % (l + 1) = ma := ⟨_, rfl⟩
      obtain ⟨mb, hmb⟩ : ∃ mb, vb % (l + 1) = mb := ⟨_, rfl⟩
      have e1 : (vo : Int).tmod (o : Int) = (m : Int) := by rw [Int.tmod_eq_emod_of_nonneg (by omega), ← hm]; omega
      have e2 : (va : Int).tmod ((l : Int) + 1) = (ma : Int) := by rw [Int.tmod_eq_emod_of_nonneg (by omega), ← hma, Int.natCast_emod]; rfl
      have e3 : (vb : Int).tmod ((l : Int) + 1) = (mb : Int) := by rw [Int.tmod_eq_emod_of_nonneg (by omega), ← hmb, Int.natCast_emod]; rfl
      have hm4 : m < 4 := by have := Nat.mod_lt vo (show 0 < o by omega); omega
      have hma4 : ma < 17 := by have := Nat.mod_lt va (show 0 < l + 1 by omega); omega
      have hmb4 : mb < 17 := by have := Nat.mod_lt vb (show 0 < l + 1 by omega); omega
      have w0 : IntKind.i64.wrap (vo : Int) = (vo : Int) := by rw [IntKind.wrap_i64]; omega
      have w1 : IntKind.i64.wrap (va : Int) = (va : Int) := by rw [IntKind.wrap_i64]; omega
      have w2 : IntKind.i64.wrap (vb : Int) = (vb : Int) := by rw [IntKind.wrap_i64]; omega
      have w3 : IntKind.i64.wrap (m : Int) = (m : Int) := by rw [IntKind.wrap_i64]; omega
      have w4 : IntKind.i64.wrap (ma : Int) = (ma : Int) := by rw [IntKind.wrap_i64]; omega
      have w5 : IntKind.i64.wrap (mb : Int) = (mb : Int) := by rw [IntKind.wrap_i64]; omega
      have w6 : IntKind.i64.wrap ((j : Int) + 1) = (j : Int) + 1 := by rw [IntKind.wrap_i64]; omega
      have hbe : Below w.heap.size w (wr.alloc (.cells #[.int .u8 (vo : Int), .int .u8 (va : Int), .int .u8 (vb : Int)] 79)) := hb.alloc hb.size _
      have HG : Hid (n + 1 - (j + 1) < _) := Nat.lt_of_lt_of_le (show n + 1 - (j + 1) < n + 1 - j by omega) hgh
      have hbad : ¬ Hit n fo fa fb o l k i j → ∀ j', j' < j + 1 → ¬ Hit n fo fa fb o l k i j' := by
        intro hj' j' hlt
        by_cases e : j' = j
        · rw [e]; exact hj'
        · exact Hno.out j' (by omega)
      have HB : Hid (¬ (m = k ∧ ma ≤ i ∧ i < mb) → ∀ j', j' < j + 1 → ¬ Hit n fo fa fb o l k i j') := by
        show _ → _
        intro hx
        exact hbad (fun hh => hx ⟨by rw [← hm, ← hvo]; exact hh.2.1, by rw [← hma, ← hva]; exact hh.2.2.1, by rw [← hmb, ← hvb]; exact hh.2.2.2⟩)
      have HY : Hid (m = k → ma ≤ i → i < mb → ∃ j, Hit n fo fa fb o l k i j) := fun x1 x2 x3 => ⟨j, hjn, by rw [hvo, hm]; exact x1, by rw [hva, hma]; exact x2, by rw [hvb, hmb]; exact x3⟩
      clear c0 c1 c2 r0 r1 r2 hvo hva hvb hm hma hmb hbad ho ho4 hl hi hk hn300 hgh hm4 hma4 hmb4 HR
      by_cases q1 : m = k
      · subst q1
        by_cases q2 : ma ≤ i
        · have q2' : (ma : Int) ≤ (i : Int) := by omega
          by_cases q3 : i < mb
          · have q3' : (i : Int) < (mb : Int) := by omega
            have hres := HY.out rfl q2 q3
            have HRes : Hid (∃ j, Hit n fo fa fb o l m i j) := hres
            clear hres q2 q3
            go_wp2
            go_ret
            exact ⟨by rw [(hitB_iff n fo fa fb o l m i).2 HRes.out]; rfl, hbe⟩
          · have q3' : ¬ ((i : Int) < (mb : Int)) := by omega
            have hb2 := HB.out (fun x => q3 x.2.2)
            have HB2 : Hid (∀ j', j' < j + 1 → ¬ Hit n fo fa fb o l m i j') := hb2
            clear hb2 q2 q3
            go_wp2
            go_roundg (n + 1 - (j + 1))
            case measure => exact HG.out
            case rel => exact ⟨j + 1, rfl, by omega, hbe, HB2.out, Nat.le_refl _⟩
        · have q2' : ¬ ((ma : Int) ≤ (i : Int)) := by omega
          have hb2 := HB.out (fun x => q2 x.2.1)
          have HB2 : Hid (∀ j', j' < j + 1 → ¬ Hit n fo fa fb o l m i j') := hb2
          clear hb2 q2
          go_wp2
          go_roundg (n + 1 - (j + 1))
          case measure => exact HG.out
          case rel => exact ⟨j + 1, rfl, by omega, hbe, HB2.out, Nat.le_refl _⟩
      · have q1' : ((m : Int) != (k : Int)) = true := by simp; omega
        have hb2 := HB.out (fun x => q1 x.1)
        have HB2 : Hid (∀ j', j' < j + 1 → ¬ Hit n fo fa fb o l k i j') := hb2
        clear hb2
        go_wp2
        go_roundg (n + 1 - (j + 1))
        case measure => exact HG.out
        case rel => exact ⟨j + 1, rfl, by omega, hbe, HB2.out, Nat.le_refl _⟩
    · have t1 : ¬ ((j : Int) < (n : Int)) := by omega
      go_wp2
      go_ret
      have hf : hitB n fo fa fb o l k i = false := by
        refine Bool.eq_false_iff.2 fun hx => ?_
        obtain ⟨j', hj'⟩ := (hitB_iff n fo fa fb o l k i).1 hx
        exact Hno.out j' (by have := hj'.1; omega) hj'
      exact ⟨by rw [hf]; rfl, hb⟩
end Go.Proofs.Ybulkcmtm
