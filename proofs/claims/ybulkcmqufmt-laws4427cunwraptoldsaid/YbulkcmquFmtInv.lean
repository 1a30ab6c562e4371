/- (*InvalidError).Error (function 9): no faults; one; two; three and more (fmt's text is whatever F gives). -/
import Derived.Test.YbulkcmquFmtErr
import Derived.Test.YbulkcmquFmtFmt
namespace Go.Proofs.YbulkcmquFmt
open Go.RowKit Go.Extern.Stop Go.Stop Go.Extern

theorem inv_zero (E : Nat) (a : Option Addr) (c : Nat) (w : World) (hE : w.cell? ⟨E, 0, none⟩ = some (.slice a 0 c)) :
    Calls Ybaf.prog 9 #[.pointer (some ⟨E, 0, none⟩)] w fun e w' => e = .returned (.string ⟨#[105, 110, 118, 97, 108, 105, 100, 32, 105, 110, 112, 117, 116]⟩) ∧ w' = w := by
  go_enter Ybaf.func9, Ybaf.ntmps9
  go_wp2
  go_ret
  exact ⟨rfl, rfl⟩

/-- WHAT A CALL LEAVES THAT HAS ASKED ONE FAULT FOR ITS TEXT, ONCE. -/
def Asked (L : Nat) (i : Int) (w w' : World) : Prop :=
  ∃ g cap w1, w' = w1.setCell ⟨L, 0, none⟩ (.slice (some ⟨g, 0, none⟩) 1 cap) ∧ w.heap.size ≤ g ∧ w1.cell? ⟨g, 0, none⟩ = some (.int .i64 i) ∧ Below w.heap.size w w1

/-- What the walks ask of the world ahead of the call. -/
structure Ready (E B q L n : Nat) (s : ByteArray) (i : Int) (w : World) : Prop where
  hE : w.cell? ⟨E, 0, none⟩ = some (.slice (some ⟨B, 0, none⟩) n n)
  hB : w.cell? ⟨B, 0, none⟩ = some (.iface 49 (.pointer (some ⟨q, 0, none⟩)))
  hq0 : w.cell? ⟨q, 0, none⟩ = some (.string s)
  hq1 : w.cell? ⟨q, 1, none⟩ = some (.int .i64 i)
  hq2 : w.cell? ⟨q, 2, none⟩ = some (.pointer (some ⟨L, 0, none⟩))
  hL : w.cell? ⟨L, 0, none⟩ = some (.slice none 0 0)
  hLf : w.frozen? ⟨L, 0, none⟩ = false
  hqL : q ≠ L
  hEL : E ≠ L

theorem Ready.call {E B q L n : Nat} {s : ByteArray} {i : Int} {w : World} (h : Ready E B q L n s i w) :
    Calls Ybaf.prog 39 #[.pointer (some ⟨q, 0, none⟩)] w fun e w' => e = .returned (.string s) ∧ w'.cell? ⟨E, 0, none⟩ = some (.slice (some ⟨B, 0, none⟩) n n) ∧ Asked L i w w' ∧ w'.tape = w.tape :=
  (err_call q L s i w h.hq0 h.hq1 h.hq2 h.hL h.hLf h.hqL).mono fun e w' ⟨h1, g, cap, w1, h2, h3, h4, h5⟩ => by
    have lE := World.block_lt_of_cell? w _ h.hE
    refine ⟨h1, ?_, ⟨g, cap, w1, h2, h3, h4, h5⟩, ?_⟩
    · rw [h2, World.cell?_setCell_other _ _ _ _ (by simp; exact fun e => h.hEL e.symm)]
      exact (h5.cell (p := ⟨E, 0, none⟩) lE).trans h.hE
    · rw [h2]; exact h5.tape

theorem method_err (a : Addr) (w : World) : (method 189 49 (.pointer (some a)) "Error").run Ybaf.prog w = .ok (39, .pointer (some a)) w := by kernel_rfl

set_option maxHeartbeats 800000 in
theorem inv_one (E B q L : Nat) (s : ByteArray) (i : Int) (w : World) (h : Ready E B q L 1 s i w) :
    Calls Ybaf.prog 9 #[.pointer (some ⟨E, 0, none⟩)] w fun e w' => e = .returned (.string s) ∧ Asked L i w w' := by
  have hE := h.hE
  have hB := h.hB
  have hm := method_err
  go_enter Ybaf.func9, Ybaf.ntmps9
  go_wp2_with (go_at_call 39; refine h.call.mono ?_; rintro e w' ⟨rfl, hE', hA, _⟩; clear hE hB h)
  go_ret
  exact ⟨rfl, hA⟩

/-- " (and 1 more invalid record)" -/
def oneMore : ByteArray := ⟨#[32, 40, 97, 110, 100, 32, 49, 32, 109, 111, 114, 101, 32, 105, 110, 118, 97, 108, 105, 100, 32, 114, 101, 99, 111, 114, 100, 41]⟩

set_option maxHeartbeats 800000 in
theorem inv_two (E B q L : Nat) (s : ByteArray) (i : Int) (w : World) (hs : s.size ≤ 140737488355328) (h : Ready E B q L 2 s i w) :
    Calls Ybaf.prog 9 #[.pointer (some ⟨E, 0, none⟩)] w fun e w' => e = .returned (.string (s ++ oneMore)) ∧ Asked L i w w' := by
  have hE := h.hE
  have hB := h.hB
  have hm := method_err
  go_enter Ybaf.func9, Ybaf.ntmps9
  go_wp2_with (go_at_call 39; refine h.call.mono ?_; rintro e w' ⟨rfl, hE', hA, _⟩; clear hE hB h)
  go_ret
  exact ⟨rfl, hA⟩

set_option maxHeartbeats 800000 in
theorem inv_more (F : Interp) (E B q L n : Nat) (s : ByteArray) (i : Int) (w : World) (hF : F.answers w.tape) (hn : 3 ≤ n) (hn' : n ≤ 1024) (h : Ready E B q L n s i w) :
    Calls Ybaf.prog 9 #[.pointer (some ⟨E, 0, none⟩)] w fun e w' => (∃ t, e = .returned (.string t)) ∧ ∃ w1, Asked L i w w1 ∧ Below w1.heap.size w1 w' := by
  have hE := h.hE
  have hB := h.hB
  have hm := method_err
  have f1 := Ybaf.call15
  have f2 := Ybaf.guard
  have f3 := Ybaf.fmt2
  have f4 := Ybaf.op3_100
  have f5 := Ybaf.op9_115
  have t0 : ((n : Int) == 0) = false := by rw [beq_eq_false_iff_ne]; omega
  have t1 : ((n : Int) - 1 == 0) = false := by rw [beq_eq_false_iff_ne]; omega
  have t2 : ((n : Int) - 1 == 1) = false := by rw [beq_eq_false_iff_ne]; omega
  go_enter Ybaf.func9, Ybaf.ntmps9
  go_wp2_with (go_at_call 39; refine h.call.mono ?_; rintro e w' ⟨rfl, hE', hA, ht⟩; have hF' := answers_open (show F.answers w'.tape by rw [ht]; exact hF); clear hE hB h ht)
  go_ret
  exact ⟨⟨_, rfl⟩, w', hA, ((Below.refl _ _).alloc (Nat.le_refl _) _).drew⟩

/-- WHAT LIES BEHIND A CALL THAT HAS ASKED JUST ONE FAULT: the log holds its number alone; every other old block is as it was. -/
structure Left (L : Nat) (i : Int) (w w' : World) : Prop where
  log : ∃ g cap, w'.cell? ⟨L, 0, none⟩ = some (.slice (some ⟨g, 0, none⟩) 1 cap) ∧ w'.cell? ⟨g, 0, none⟩ = some (.int .i64 i)
  old : ∀ b, b < w.heap.size → b ≠ L → w'.heap[b]? = w.heap[b]?
  bel : Below L w w'

theorem Asked.left {L : Nat} {i : Int} {w w' : World} (hL : L < w.heap.size) {v : Value} (hc : w.cell? ⟨L, 0, none⟩ = some v) (h : Asked L i w w') : Left L i w w' := by
  obtain ⟨g, cap, w1, rfl, h2, h3, h4⟩ := h
  refine ⟨⟨g, cap, ?_, ?_⟩, ?_, ?_⟩
  · exact World.cell?_setCell_same' _ _ _ (by rw [h4.cell (p := ⟨L, 0, none⟩) hL, hc]; rfl)
  · rw [World.cell?_setCell_other _ _ _ _ (show (⟨L, 0, none⟩ : Addr) ≠ ⟨g, 0, none⟩ from fun e => by have := congrArg Addr.block e; simp at this; omega)]; exact h3
  · intro b hb hne
    rw [Below.heap_setCell _ _ _ _ hne]
    exact h4.block b hb
  · exact (h4.mono (Nat.le_of_lt hL)).setCell (Nat.le_refl _) _

theorem Left.later {L : Nat} {i : Int} {w w1 w' : World} (h : Left L i w w1) (hb : Below w1.heap.size w1 w') : Left L i w w' := by
  obtain ⟨⟨g, cap, h1, h2⟩, h3, h4⟩ := h
  have l1 := World.block_lt_of_cell? w1 _ h1
  have l2 := World.block_lt_of_cell? w1 _ h2
  refine ⟨⟨g, cap, (hb.cell (p := ⟨L, 0, none⟩) l1).trans h1, (hb.cell (p := ⟨g, 0, none⟩) l2).trans h2⟩, ?_, ?_⟩
  · intro b hb' hne
    rw [hb.block b (Nat.lt_of_lt_of_le hb' h4.size)]
    exact h3 b hb' hne
  · exact h4.trans (hb.mono (Nat.le_of_lt l1))

/-- (*InvalidError).Error WHERE THERE IS A FAULT: the first fault is asked for its text, once. -/
theorem inv_some (F : Interp) (E B q L n : Nat) (s : ByteArray) (i : Int) (w : World) (hF : F.answers w.tape) (hn : 1 ≤ n) (hn' : n ≤ 1024) (hs : s.size ≤ 140737488355328) (h : Ready E B q L n s i w) :
    Calls Ybaf.prog 9 #[.pointer (some ⟨E, 0, none⟩)] w fun e w' => ∃ t, e = .returned (.string t) ∧ (n = 1 → t = s) ∧ (n = 2 → t = s ++ oneMore) ∧ Left L i w w' := by
  have hL := World.block_lt_of_cell? w _ h.hL
  by_cases h1 : n = 1
  · subst h1
    exact (inv_one E B q L s i w h).mono fun e w' ⟨he, hA⟩ => ⟨s, he, fun _ => rfl, fun e => by omega, hA.left hL h.hL⟩
  · by_cases h2 : n = 2
    · subst h2
      exact (inv_two E B q L s i w hs h).mono fun e w' ⟨he, hA⟩ => ⟨_, he, fun e => by omega, fun _ => rfl, hA.left hL h.hL⟩
    · exact (inv_more F E B q L n s i w hF (by omega) hn' h).mono fun e w' ⟨⟨t, he⟩, w1, hA, hb⟩ => ⟨t, he, fun e => by omega, fun e => by omega, (hA.left hL h.hL).later hb⟩
end Go.Proofs.YbulkcmquFmt
