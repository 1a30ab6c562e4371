/- THE ROW Rows.LawS4432CLeaveSaid. -/
import Derived.Test.YbulkcmtmOpen
import Derived.Test.YbulkcmtmLeaveLaw
namespace Go.Proofs.Ybulkcmtm.lawS4432CLeave
open Go.ChangeShapes Go.WideShapes Go.ChangeAt Go.RowKit

theorem own : ownKnob Yba.prog.godebug = none := by kernel_rfl
theorem laidOut : laidOutB Yba.prog = true := by kernel_rfl

theorem walk (a : Option Addr) (n cap : Nat) (F : Nat → Nat → Int) (w : World)
    (hc : ∀ i, i < n → ∃ x, a = some x ∧ ∀ c, c < 4 → w.cell? (x.add (i * 4 + c)) = some (.int (if c < 2 then .u8 else .i8) (F i c)) ∧ (Lit.int (if c < 2 then .u8 else .i8) (F i c)).wf = true) :
    Calls Yba.prog 4 #[.slice a n cap] w fun e w' => e = .returned (.bool true) ∧ Below w.heap.size w w' := by
  by_cases hn : n ≤ 1024
  · refine law4_some a n cap (fun i => F i 0) (fun i => F i 1) (fun i => F i 2) (fun i => F i 3) w hn ?_
    intro j hj
    obtain ⟨x, rfl, hx⟩ := hc j hj
    obtain ⟨x', e, hx0⟩ := hc 0 (by omega)
    cases e
    have h00 := (hx0 0 (by omega)).1
    have hz : x.add (0 * 4 + 0) = x := by simp [Addr.add]
    rw [hz] at h00
    obtain ⟨b, off, rfl⟩ := add_cell h00
    have e1 : ∀ k, (⟨b, off, none⟩ : Addr).add k = ⟨b, off + k, none⟩ := by
      intro k
      unfold Addr.add; split
      · subst_vars; rfl
      · rfl
    obtain ⟨c0, w0⟩ := hx 0 (by omega)
    obtain ⟨c1, w1⟩ := hx 1 (by omega)
    obtain ⟨c2, w2⟩ := hx 2 (by omega)
    obtain ⟨c3, w3⟩ := hx 3 (by omega)
    rw [e1] at c0 c1 c2 c3
    exact ⟨b, off, rfl, World.block_lt_of_cell? _ _ h00, c0, c1, c2, c3, (wf_u8 w0).1, (wf_u8 w0).2, (wf_u8 w1).1, (wf_u8 w1).2, (wf_i8 w2).1, (wf_i8 w2).2, (wf_i8 w3).1, (wf_i8 w3).2⟩
  · exact law4_big a n cap w hn

theorem fields48 : ∀ (c : Nat) (f : Field), (#[{ name := "Op", type := 5, offset := 0, embedded := false, tag := "", pkgPath := "", byteOffset := 0 }, { name := "N", type := 5, offset := 1, embedded := false, tag := "", pkgPath := "", byteOffset := 1 },
      { name := "P", type := 29, offset := 2, embedded := false, tag := "", pkgPath := "", byteOffset := 2 }, { name := "Q", type := 29, offset := 3, embedded := false, tag := "", pkgPath := "", byteOffset := 3 }] : Array Field)[c]? = some f →
    f.offset = c ∧ Yba.prog.cellsOf f.type = 1 ∧ Yba.prog.underlying f.type = some (.int (if c < 2 then .u8 else .i8)) := by
  intro c f h
  have hc : c < 4 := (Array.getElem?_eq_some_iff.1 h).1
  have k5 : Yba.prog.cellsOf 5 = 1 := by kernel_rfl
  have k29 : Yba.prog.cellsOf 29 = 1 := by kernel_rfl
  rcases (show c = 0 ∨ c = 1 ∨ c = 2 ∨ c = 3 by omega) with rfl | rfl | rfl | rfl
  · cases h; exact ⟨rfl, k5, Yba.underlying5⟩
  · cases h; exact ⟨rfl, k5, Yba.underlying5⟩
  · cases h; exact ⟨rfl, k29, Yba.underlying29⟩
  · cases h; exact ⟨rfl, k29, Yba.underlying29⟩

set_option maxRecDepth 100000 in
theorem lifted (os : Os) (started : os.Started) (H : Type) (enc : TypeId × Value → H) :
    ReturnsInHanded {} Yba.checked os 4 .any (Rows.lawS4432CLeaveSpec.pre6 enc Yba.prog Yba.f4 Rows.lawS4432CLeaveRow.domain false) (Rows.lawS4432CLeaveSpec.post enc Yba.prog Yba.f4 false true false false) := by
  refine returnsInHanded_of_change (C := Yba.checked) own started (by kernel_rfl) Yba.func4
    (ChangeSpec.witness6 (enc := enc) (C := Yba.checked) false ⟨#[], #[.slice none 0 0], []⟩ 8 (by kernel_rfl) (by kernel_rfl) (by kernel_rfl) (by kernel_rfl)) ?_
  intro W base args ds gs before hval0 hW hcnd _
  have hval : ∀ (j : Nat) t v, Yba.f4.params[j]? = some t → args[j]? = some v → Value.okWide Yba.prog W .any base t v := hval0
  have hW' := hW
  obtain ⟨p, q, hA0, hV, rfl, hfz, hnd⟩ := hW
  have hA : DataW.TrodAll enc Yba.prog W 0 (fun _ => true) true Yba.f4.params.toList args.toList ds p := hA0
  rw [Yba.params4] at hA hval
  obtain ⟨v0, vs0, d0, ds0, p0, q0, hargs, rfl, rfl, h0, r0⟩ := trodAll_cons hA
  obtain ⟨rfl, rfl, rfl⟩ := trodAll_nil r0
  obtain rfl : args = #[v0] := by cases args; simp_all
  obtain ⟨rfl, rfl⟩ := trodVars_none hV
  obtain ⟨a0, len0, cap0, rfl⟩ := okWide_slice Yba.underlying43 (hval 0 43 v0 rfl rfl)
  have k0 := h0
  have lt0 : ∀ x ∈ p0, x.block < W.heap.size := by obtain ⟨m, hm⟩ := k0; exact DataW.trod_lt m _ _ _ hm
  obtain ⟨F, hF⟩ : ∃ F : Nat → Nat → Int, ∀ i, i < len0 → ∃ x, a0 = some x ∧ ∀ c, c < 4 → W.cell? (x.add (i * 4 + c)) = some (.int (if c < 2 then .u8 else .i8) (F i c)) ∧ (Lit.int (if c < 2 then .u8 else .i8) (F i c)).wf = true := by
    obtain ⟨fuel, hf⟩ := h0
    rcases open_rows (ks := fun c => if c < 2 then .u8 else .i8) Yba.underlying43 Yba.underlying48 (by kernel_rfl) fields48 hf with hcs | ⟨x, l, c, F, hcs, hcell⟩
    · simp [Value.cells] at hcs
      obtain ⟨rfl, rfl, rfl⟩ := hcs
      exact ⟨fun _ _ => 0, fun j hj => by omega⟩
    · simp [Value.cells] at hcs
      obtain ⟨rfl, rfl, rfl⟩ := hcs
      exact ⟨F, fun j hj => ⟨x, rfl, hcell j hj⟩⟩
  clear hA0 hval0
  refine (walk a0 len0 cap0 F W hF).mono fun e W' ⟨he, bel⟩ => ?_
  subst he
  exact ⟨_, rfl, _, _, _, [], _, [], hW', trodAll_mk1 (shut_bool Yba.underlying4 _), (trodAll_cons_mk (Below.trod laidOut (by kernel_rfl) (of_decide_eq_true (by kernel_rfl)) k0 bel lt0) trodAll_mk0), rfl, bel.frame _, fun h => by cases h⟩

theorem over : Rows.lawS4432CLeaveRow.holds Yba.pinned (OpenSpec.ofChange Rows.lawS4432CLeaveSpec) :=
  OpenClaim.holds_of_wide 4 Yba.f4 rfl rfl rfl rfl rfl rfl rfl ⟨rfl, rfl, rfl, rfl, rfl⟩ rfl rfl rfl rfl rfl (by kernel_rfl) Yba.func4 (by kernel_rfl)
    (of_decide_eq_true (by kernel_rfl)) (by unfold Func.isWrapper; first | (rw [if_pos (by decide +kernel)]; kernel_rfl) | (rw [if_neg (by decide +kernel)]; exact ⟨rfl, rfl⟩))
    (fun os started H enc _ => lifted os started H enc)

end Go.Proofs.Ybulkcmtm.lawS4432CLeave

namespace Go.Proofs.Ybulkcmtm
theorem leave_proved : Rows.LawS4432CLeaveSaid :=
  lawS4432CLeave.over
#print axioms leave_proved
end Go.Proofs.Ybulkcmtm
