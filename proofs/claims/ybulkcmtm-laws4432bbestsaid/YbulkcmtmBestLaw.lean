/- THE WALK OF LawS4432BBest (function 3). -/
import Derived.Test.YbulkcmtmMax
import Derived.Test.YbulkcmtmWhere
import Derived.Test.YbulkcmtmJoin
import Derived.Test.YbulkcmtmNew
import Derived.Shelf.Abstract
namespace Go.Proofs.Ybulkcmtm
open Go.RowKit Go.Shelf

set_option maxRecDepth 100000 in
theorem law3_big (a b c : Int) (sa ia ka : Option Addr) (n1 c1 m c2 kn kc : Nat) (w : World) (hn : ¬ (n1 ≤ 300 ∧ m ≤ 300)) :
    Calls Yba.prog 3 #[.int .u8 a, .int .u8 b, .int .u8 c, .slice sa n1 c1, .slice ia m c2, .slice ka kn kc] w fun e w' => e = .returned (.bool true) ∧ Below w.heap.size w w' := by
  have hb : Below w.heap.size w (w.alloc (.cells #[.slice ka kn kc] 24)) := (Below.refl _ w).alloc (Nat.le_refl _) _
  by_cases h1 : n1 ≤ 300
  · have h2 : ¬ ((300 : Int) < (n1 : Int)) := by omega
    have h3 : (300 : Int) < (m : Int) := by omega
    go_enter Yba.func3, Yba.ntmps3
    go_wp2
    go_ret
    exact ⟨rfl, hb⟩
  · have h2 : (300 : Int) < (n1 : Int) := by omega
    go_enter Yba.func3, Yba.ntmps3
    go_wp2
    go_ret
    exact ⟨rfl, hb⟩

theorem four (W : World) (v0 v1 v2 v3 : Value) :
    ((((W.alloc (.cells #[v0] 22)).alloc (.cells #[v1] 3)).alloc (.cells #[v2] 3)).alloc (.cells #[v3] 3)).cell? ⟨W.heap.size, 0, none⟩ = some v0 ∧
    ((((W.alloc (.cells #[v0] 22)).alloc (.cells #[v1] 3)).alloc (.cells #[v2] 3)).alloc (.cells #[v3] 3)).cell? ⟨W.heap.size + 1, 0, none⟩ = some v1 ∧
    ((((W.alloc (.cells #[v0] 22)).alloc (.cells #[v1] 3)).alloc (.cells #[v2] 3)).alloc (.cells #[v3] 3)).cell? ⟨W.heap.size + 2, 0, none⟩ = some v2 ∧
    ((((W.alloc (.cells #[v0] 22)).alloc (.cells #[v1] 3)).alloc (.cells #[v2] 3)).alloc (.cells #[v3] 3)).cell? ⟨W.heap.size + 3, 0, none⟩ = some v3 := by
  refine ⟨?_, ?_, ?_, ?_⟩ <;> go_simp

section
variable {base tb : Nat} {T : Tree} {l : Lay}

/-- One round of the law's joins. -/
theorem join_b (W0 : World) (sa : Option Addr) (n1 c1 o L N0 n m ex : Nat) (fo fa fb : Nat → Nat) (ko : Nat → Nat) (gp : Nat → Int) (h : TS W0 base tb T l) (hI : BI T o m ex n 300 ko gp (csOf n1 fo fa fb o L)) (hR : Row3 W0 N0 sa n1 fo fa fb) (hN0 : N0 ≤ base)
    (hn1 : n1 ≤ 300) (ho : 1 ≤ o) (ho4 : o ≤ 4) (hL : L ≤ 16) (hn : n < m) (hm : m ≤ 300) (hko : ko n < o) (hex : ex ≤ 4) :
    Calls Yba.prog 6 #[.pointer (some ⟨tb, 0, none⟩), .int .i64 (ko n : Int), .int .i64 (n : Int), .agg #[.int .i64 (gp n), .int .i64 (n : Int)], .func (.func 23) #[] #[.pointer (some ⟨W0.heap.size, 0, none⟩), .pointer (some ⟨W0.heap.size + 1, 0, none⟩), .pointer (some ⟨W0.heap.size + 3, 0, none⟩), .pointer (some ⟨W0.heap.size + 2, 0, none⟩)]]
      ((((W0.alloc (.cells #[.slice sa n1 c1] 22)).alloc (.cells #[.int .i64 o] 3)).alloc (.cells #[.int .i64 L] 3)).alloc (.cells #[.int .i64 (ko n : Int)] 3)) fun e W' => (∃ v, e = .returned v) ∧ ∃ T' l', TS W' base tb T' l' ∧ BI T' o m ex (n + 1) 300 ko gp (csOf n1 fo fa fb o L) ∧ Below base W0 W' := by
  obtain ⟨W7, hW7⟩ : ∃ W7, ((((W0.alloc (.cells #[.slice sa n1 c1] 22)).alloc (.cells #[.int .i64 o] 3)).alloc (.cells #[.int .i64 L] 3)).alloc (.cells #[.int .i64 (ko n : Int)] 3)) = W7 := ⟨_, rfl⟩
  have hb7 : Below W0.heap.size W0 W7 := by rw [← hW7]; exact ((((Below.refl _ W0).alloc (Nat.le_refl _) _).alloc (by simp) _).alloc (by simp; omega) _).alloc (by simp; omega) _
  have hT7 := h.below hb7
  have hB0 : base ≤ W0.heap.size := Nat.le_trans h.lo (Nat.le_of_lt h.tb_lt)
  obtain ⟨k0, k1, k2, k3⟩ := four W0 (.slice sa n1 c1) (.int .i64 (o : Int)) (.int .i64 (L : Int)) (.int .i64 (ko n : Int))
  rw [hW7] at k0 k1 k2 k3
  have hsz : W7.heap.size = W0.heap.size + 4 := by rw [← hW7]; simp
  have hown : ∀ j, l.owns j → j < W0.heap.size := fun j hj => h.owned_lt hj
  have htb := h.tb_lt
  rw [hW7]
  have hC : Cap W7 W0.heap.size (W0.heap.size + 1) (W0.heap.size + 3) (W0.heap.size + 2) sa n1 c1 o L (ko n) fo fa fb (fun j => l.owns j ∨ j = tb ∨ W7.heap.size ≤ j) := by
    refine ⟨k0, k1, k3, k2, ?_, ?_, ?_, ?_, ?_⟩
    · intro j hj
      obtain ⟨b, off, e, hlt, x0, x1, x2, r⟩ := hR j hj
      refine ⟨b, off, e, ?_, cell_below hb7 x0, cell_below hb7 x1, cell_below hb7 x2, r⟩
      rintro (x | x | x)
      · have := (h.owned x).1; omega
      · have := h.lo; omega
      · omega
    · rintro (x | x | x)
      · have := hown _ x; omega
      · omega
      · omega
    · rintro (x | x | x)
      · have := hown _ x; omega
      · omega
      · omega
    · rintro (x | x | x)
      · have := hown _ x; omega
      · omega
      · omega
    · rintro (x | x | x)
      · have := hown _ x; omega
      · omega
      · omega
  have hbd := hI.bd
  have hst : T.st.length ≤ 19200 := by
    have : 16 * 300 * o ≤ 16 * 300 * 4 := Nat.mul_le_mul_left _ ho4
    omega
  have hcl := csOf_len n1 fo fa fb o L (ko n)
  refine ((callsIn_wide (n := 3)).1 (join6 W7 hT7 hI.hw (ko n) n ex (gp n) (n : Int) 23 #[.pointer (some ⟨W0.heap.size, 0, none⟩), .pointer (some ⟨W0.heap.size + 1, 0, none⟩), .pointer (some ⟨W0.heap.size + 3, 0, none⟩), .pointer (some ⟨W0.heap.size + 2, 0, none⟩)] (csOf n1 fo fa fb o L (ko n)) n1 hI.lv hex hI.hd (by rw [hI.ol]; exact hko) (by rw [hI.sl]; exact hko) (by rw [hI.ol]; exact ho4) (by rw [hI.al]; exact hn)
    (fun y hy e => by have := ((hI.mem _ hko y).1 hy).1; omega) (hI.wf _ hko) (by rw [hI.al]; omega) (by omega) hcl ?_ ?_ (enters_of Yba.func23 (by kernel_rfl) rfl))).mono ?_
  · rcases hI.so _ hko with ⟨_, x⟩ | ⟨f, t, x, y, _⟩
    · exact .inl x
    · exact .inr ⟨f, t, x, y⟩
  · intro w0 ht
    exact seq23 _ _ _ _ sa n1 c1 o L (ko n) fo fa fb _ w0 (hC.touch (ht.mono fun j e => e.elim .inl (fun e => .inr (.inl e)))) hn1 ho ho4 hL
  · rintro e W' ⟨hv, T', l', hT', hM', hJ⟩
    exact ⟨hv, T', l', hT', hI.join hn hko hex (by omega) hJ, (hb7.mono hB0).trans (hM'.toBelow hT7)⟩
end
end Go.Proofs.Ybulkcmtm
