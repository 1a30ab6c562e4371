/- THE ROW Rows.LawS4432BBestSaid. -/
import Derived.Test.YbulkcmtmOpen
import Derived.Test.YbulkcmtmBestWalk
namespace Go.Proofs.Ybulkcmtm.lawS4432BBest
open Go.ChangeShapes Go.WideShapes Go.ChangeAt Go.RowKit

theorem own : ownKnob Yba.prog.godebug = none := by kernel_rfl
theorem laidOut : laidOutB Yba.prog = true := by kernel_rfl

theorem add_at (b off k : Nat) : (⟨b, off, none⟩ : Addr).add k = ⟨b, off + k, none⟩ := by
  unfold Addr.add; split
  · subst_vars; rfl
  · rfl

theorem row3 {w : World} {a : Option Addr} {n : Nat} {F : Nat → Nat → Int} (hc : ∀ i, i < n → ∃ x, a = some x ∧ ∀ c, c < 3 → w.cell? (x.add (i * 3 + c)) = some (.int .u8 (F i c)) ∧ (Lit.int .u8 (F i c)).wf = true) :
    Row3 w w.heap.size a n (fun j => (F j 0).toNat) (fun j => (F j 1).toNat) (fun j => (F j 2).toNat) := by
  intro j hj
  obtain ⟨x, rfl, hx⟩ := hc j hj
  obtain ⟨x', e, hx0⟩ := hc 0 (by omega)
  cases e
  have h00 := (hx0 0 (by omega)).1
  have hz : x.add (0 * 3 + 0) = x := by simp [Addr.add]
  rw [hz] at h00
  obtain ⟨b, off, rfl⟩ := add_cell h00
  obtain ⟨c0, w0⟩ := hx 0 (by omega)
  obtain ⟨c1, w1⟩ := hx 1 (by omega)
  obtain ⟨c2, w2⟩ := hx 2 (by omega)
  rw [add_at] at c0 c1 c2
  have v0 := wf_u8 w0
  have v1 := wf_u8 w1
  have v2 := wf_u8 w2
  refine ⟨b, off, rfl, World.block_lt_of_cell? _ _ h00, ?_, ?_, ?_, by simp only; omega, by simp only; omega, by simp only; omega⟩
  · rw [Int.toNat_of_nonneg v0.1]; exact c0
  · rw [Int.toNat_of_nonneg v1.1]; exact c1
  · rw [Int.toNat_of_nonneg v2.1]; exact c2

theorem row2 {w : World} {a : Option Addr} {n : Nat} {F : Nat → Nat → Int} (hc : ∀ i, i < n → ∃ x, a = some x ∧ ∀ c, c < 2 → w.cell? (x.add (i * 2 + c)) = some (.int (if c < 1 then .u8 else .i8) (F i c)) ∧ (Lit.int (if c < 1 then .u8 else .i8) (F i c)).wf = true) :
    Row2 w w.heap.size a n (fun j => (F j 0).toNat) (fun j => F j 1) := by
  intro j hj
  obtain ⟨x, rfl, hx⟩ := hc j hj
  obtain ⟨x', e, hx0⟩ := hc 0 (by omega)
  cases e
  have h00 := (hx0 0 (by omega)).1
  have hz : x.add (0 * 2 + 0) = x := by simp [Addr.add]
  rw [hz] at h00
  obtain ⟨b, off, rfl⟩ := add_cell h00
  obtain ⟨c0, w0⟩ := hx 0 (by omega)
  obtain ⟨c1, w1⟩ := hx 1 (by omega)
  rw [add_at] at c0 c1
  have v0 := wf_u8 w0
  have v1 := wf_i8 w1
  refine ⟨b, off, rfl, World.block_lt_of_cell? _ _ h00, ?_, c1, by simp only; omega, v1.1, v1.2⟩
  rw [Int.toNat_of_nonneg v0.1]; exact c0

theorem row1 {w : World} {x : Addr} {n : Nat} {B : Nat → Bool} (h : ∀ i, i < n → w.cell? (x.add i) = some (.bool (B i))) : Row1 w w.heap.size (some x) n B := by
  intro j hj
  have h0 := h 0 (by omega)
  have hj := h j hj
  have hz : x.add 0 = x := by simp [Addr.add]
  rw [hz] at h0
  obtain ⟨b, off, rfl⟩ := add_cell h0
  rw [add_at] at hj
  exact ⟨b, off, rfl, World.block_lt_of_cell? _ _ h0, hj⟩

theorem walk (a0 a1 a2 : Int) (w0 : (Lit.int .u8 a0).wf = true) (w1 : (Lit.int .u8 a1).wf = true) (w2 : (Lit.int .u8 a2).wf = true) (sa ia ka : Option Addr) (n1 c1 m c2 kn kc : Nat) (fo fa fb go : Nat → Nat) (gp : Nat → Int) (ks : Nat → Bool) (w : World)
    (R3 : Row3 w w.heap.size sa n1 fo fa fb) (R2 : Row2 w w.heap.size ia m go gp) (R1 : Row1 w w.heap.size ka kn ks) :
    Calls Yba.prog 3 #[.int .u8 a0, .int .u8 a1, .int .u8 a2, .slice sa n1 c1, .slice ia m c2, .slice ka kn kc] w fun e w' => e = .returned (.bool true) ∧ Below w.heap.size w w' := by
  have v0 := wf_u8 w0
  have v1 := wf_u8 w1
  have v2 := wf_u8 w2
  by_cases h : n1 ≤ 300 ∧ m ≤ 300
  · have := law3_some a0.toNat a1.toNat a2.toNat sa ia ka n1 c1 m c2 kn kc fo fa fb go gp ks w (by omega) (by omega) (by omega) h.1 h.2 R3 R2 R1
    rwa [Int.toNat_of_nonneg v0.1, Int.toNat_of_nonneg v1.1, Int.toNat_of_nonneg v2.1] at this
  · exact law3_big a0 a1 a2 sa ia ka n1 c1 m c2 kn kc w h

theorem fields79 : ∀ (c : Nat) (f : Field), (#[{ name := "Offer", type := 5, offset := 0, embedded := false, tag := "", pkgPath := "", byteOffset := 0 }, { name := "A", type := 5, offset := 1, embedded := false, tag := "", pkgPath := "", byteOffset := 1 },
      { name := "B", type := 5, offset := 2, embedded := false, tag := "", pkgPath := "", byteOffset := 2 }] : Array Field)[c]? = some f →
    f.offset = c ∧ Yba.prog.cellsOf f.type = 1 ∧ Yba.prog.underlying f.type = some (.int .u8) := by
  intro c f h
  have hc : c < 3 := (Array.getElem?_eq_some_iff.1 h).1
  have k5 : Yba.prog.cellsOf 5 = 1 := by kernel_rfl
  rcases (show c = 0 ∨ c = 1 ∨ c = 2 by omega) with rfl | rfl | rfl
  · cases h; exact ⟨rfl, k5, Yba.underlying5⟩
  · cases h; exact ⟨rfl, k5, Yba.underlying5⟩
  · cases h; exact ⟨rfl, k5, Yba.underlying5⟩

theorem fields31 : ∀ (c : Nat) (f : Field), (#[{ name := "Offer", type := 5, offset := 0, embedded := false, tag := "", pkgPath := "", byteOffset := 0 }, { name := "Passes", type := 29, offset := 1, embedded := false, tag := "", pkgPath := "", byteOffset := 1 }] : Array Field)[c]? = some f →
    f.offset = c ∧ Yba.prog.cellsOf f.type = 1 ∧ Yba.prog.underlying f.type = some (.int (if c < 1 then .u8 else .i8)) := by
  intro c f h
  have hc : c < 2 := (Array.getElem?_eq_some_iff.1 h).1
  have k5 : Yba.prog.cellsOf 5 = 1 := by kernel_rfl
  have k29 : Yba.prog.cellsOf 29 = 1 := by kernel_rfl
  rcases (show c = 0 ∨ c = 1 by omega) with rfl | rfl
  · cases h; exact ⟨rfl, k5, Yba.underlying5⟩
  · cases h; exact ⟨rfl, k29, Yba.underlying29⟩

set_option maxRecDepth 100000 in
theorem lifted (os : Os) (started : os.Started) (H : Type) (enc : TypeId × Value → H) :
    ReturnsInHanded {} Yba.checked os 3 .any (Rows.lawS4432BBestSpec.pre6 enc Yba.prog Yba.f3 Rows.lawS4432BBestRow.domain false) (Rows.lawS4432BBestSpec.post enc Yba.prog Yba.f3 false true false false) := by
  refine returnsInHanded_of_change (C := Yba.checked) own started (by kernel_rfl) Yba.func3
    (ChangeSpec.witness6 (enc := enc) (C := Yba.checked) false ⟨#[], #[.int .u8 0, .int .u8 0, .int .u8 0, .slice none 0 0, .slice none 0 0, .slice none 0 0], []⟩ 8 (by kernel_rfl) (by kernel_rfl) (by kernel_rfl) (by kernel_rfl)) ?_
  intro W base args ds gs before hval0 hW hcnd _
  have hval : ∀ (j : Nat) t v, Yba.f3.params[j]? = some t → args[j]? = some v → Value.okWide Yba.prog W .any base t v := hval0
  have hW' := hW
  obtain ⟨p, q, hA0, hV, rfl, hfz, hnd⟩ := hW
  have hA : DataW.TrodAll enc Yba.prog W 0 (fun _ => true) true Yba.f3.params.toList args.toList ds p := hA0
  rw [Yba.params3] at hA hval
  obtain ⟨v0, vs0, d0, ds0, p0, q0, hargs, rfl, rfl, h0, r0⟩ := trodAll_cons hA
  obtain ⟨v1, vs1, d1, ds1, p1, q1, rfl, rfl, rfl, h1, r1⟩ := trodAll_cons r0
  obtain ⟨v2, vs2, d2, ds2, p2, q2, rfl, rfl, rfl, h2, r2⟩ := trodAll_cons r1
  obtain ⟨v3, vs3, d3, ds3, p3, q3, rfl, rfl, rfl, h3, r3⟩ := trodAll_cons r2
  obtain ⟨v4, vs4, d4, ds4, p4, q4, rfl, rfl, rfl, h4, r4⟩ := trodAll_cons r3
  obtain ⟨v5, vs5, d5, ds5, p5, q5, rfl, rfl, rfl, h5, r5⟩ := trodAll_cons r4
  obtain ⟨rfl, rfl, rfl⟩ := trodAll_nil r5
  obtain rfl : args = #[v0, v1, v2, v3, v4, v5] := by cases args; simp_all
  obtain ⟨rfl, rfl⟩ := trodVars_none hV
  obtain ⟨a0, rfl, rfl, rfl, w0⟩ := open_int Yba.underlying5 (hval 0 5 v0 rfl rfl) h0
  obtain ⟨a1, rfl, rfl, rfl, w1⟩ := open_int Yba.underlying5 (hval 1 5 v1 rfl rfl) h1
  obtain ⟨a2, rfl, rfl, rfl, w2⟩ := open_int Yba.underlying5 (hval 2 5 v2 rfl rfl) h2
  obtain ⟨a3, len3, cap3, rfl⟩ := okWide_slice Yba.underlying22 (hval 3 22 v3 rfl rfl)
  obtain ⟨a4, len4, cap4, rfl⟩ := okWide_slice Yba.underlying23 (hval 4 23 v4 rfl rfl)
  obtain ⟨a5, len5, cap5, rfl⟩ := okWide_slice Yba.underlying24 (hval 5 24 v5 rfl rfl)
  have k3 := h3
  have k4 := h4
  have k5 := h5
  have lt3 : ∀ x ∈ p3, x.block < W.heap.size := by obtain ⟨m, hm⟩ := k3; exact DataW.trod_lt m _ _ _ hm
  have lt4 : ∀ x ∈ p4, x.block < W.heap.size := by obtain ⟨m, hm⟩ := k4; exact DataW.trod_lt m _ _ _ hm
  have lt5 : ∀ x ∈ p5, x.block < W.heap.size := by obtain ⟨m, hm⟩ := k5; exact DataW.trod_lt m _ _ _ hm
  obtain ⟨F3, hF3⟩ : ∃ F : Nat → Nat → Int, ∀ i, i < len3 → ∃ x, a3 = some x ∧ ∀ c, c < 3 → W.cell? (x.add (i * 3 + c)) = some (.int .u8 (F i c)) ∧ (Lit.int .u8 (F i c)).wf = true := by
    obtain ⟨fuel, hf⟩ := h3
    rcases open_rows (ks := fun _ => .u8) Yba.underlying22 Yba.underlying79 (by kernel_rfl) fields79 hf with hcs | ⟨x, l, c, F, hcs, hcell⟩
    · simp [Value.cells] at hcs
      obtain ⟨rfl, rfl, rfl⟩ := hcs
      exact ⟨fun _ _ => 0, fun j hj => by omega⟩
    · simp [Value.cells] at hcs
      obtain ⟨rfl, rfl, rfl⟩ := hcs
      exact ⟨F, fun j hj => ⟨x, rfl, hcell j hj⟩⟩
  obtain ⟨F4, hF4⟩ : ∃ F : Nat → Nat → Int, ∀ i, i < len4 → ∃ x, a4 = some x ∧ ∀ c, c < 2 → W.cell? (x.add (i * 2 + c)) = some (.int (if c < 1 then .u8 else .i8) (F i c)) ∧ (Lit.int (if c < 1 then .u8 else .i8) (F i c)).wf = true := by
    obtain ⟨fuel, hf⟩ := h4
    rcases open_rows (ks := fun c => if c < 1 then .u8 else .i8) Yba.underlying23 Yba.underlying31 (by kernel_rfl) fields31 hf with hcs | ⟨x, l, c, F, hcs, hcell⟩
    · simp [Value.cells] at hcs
      obtain ⟨rfl, rfl, rfl⟩ := hcs
      exact ⟨fun _ _ => 0, fun j hj => by omega⟩
    · simp [Value.cells] at hcs
      obtain ⟨rfl, rfl, rfl⟩ := hcs
      exact ⟨F, fun j hj => ⟨x, rfl, hcell j hj⟩⟩
  obtain ⟨B, hB⟩ : ∃ B : Nat → Bool, Row1 W W.heap.size a5 len5 B := by
    obtain ⟨fuel, hf⟩ := h5
    rcases Go.Deep.open_bools Yba.underlying24 Yba.underlying4 (by kernel_rfl) hf with ⟨hcs, _⟩ | ⟨x, l, c, B, hcs, _, hl, _, _, hcell⟩
    · simp [Value.cells] at hcs
      obtain ⟨rfl, rfl, rfl⟩ := hcs
      exact ⟨fun _ => false, fun j hj => by omega⟩
    · simp [Value.cells] at hcs
      obtain ⟨rfl, rfl, rfl⟩ := hcs
      exact ⟨B, row1 fun i hi => hcell i (by omega)⟩
  clear hA0 hval0
  refine (walk a0 a1 a2 w0 w1 w2 a3 a4 a5 len3 cap3 len4 cap4 len5 cap5 _ _ _ _ _ B W (row3 hF3) (row2 hF4) hB).mono fun e W' ⟨he, bel⟩ => ?_
  subst he
  exact ⟨_, rfl, _, _, _, [], _, [], hW', trodAll_mk1 (shut_bool Yba.underlying4 _), (trodAll_cons_mk (shut_int Yba.underlying5 w0) (trodAll_cons_mk (shut_int Yba.underlying5 w1) (trodAll_cons_mk (shut_int Yba.underlying5 w2) (trodAll_cons_mk (Below.trod laidOut (by kernel_rfl) (of_decide_eq_true (by kernel_rfl)) k3 bel lt3) (trodAll_cons_mk (Below.trod laidOut (by kernel_rfl) (of_decide_eq_true (by kernel_rfl)) k4 bel lt4) (trodAll_cons_mk (Below.trod laidOut (by kernel_rfl) (of_decide_eq_true (by kernel_rfl)) k5 bel lt5) trodAll_mk0)))))), rfl, bel.frame _, fun h => by cases h⟩

theorem over : Rows.lawS4432BBestRow.holds Yba.pinned (OpenSpec.ofChange Rows.lawS4432BBestSpec) :=
  OpenClaim.holds_of_wide 3 Yba.f3 rfl rfl rfl rfl rfl rfl rfl ⟨rfl, rfl, rfl, rfl, rfl⟩ rfl rfl rfl rfl rfl (by kernel_rfl) Yba.func3 (by kernel_rfl)
    (of_decide_eq_true (by kernel_rfl)) (by unfold Func.isWrapper; first | (rw [if_pos (by decide +kernel)]; kernel_rfl) | (rw [if_neg (by decide +kernel)]; exact ⟨rfl, rfl⟩))
    (fun os started H enc _ => lifted os started H enc)

end Go.Proofs.Ybulkcmtm.lawS4432BBest

namespace Go.Proofs.Ybulkcmtm
theorem best_proved : Rows.LawS4432BBestSaid :=
  lawS4432BBest.over
#print axioms best_proved
end Go.Proofs.Ybulkcmtm
