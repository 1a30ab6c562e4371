/- THE CARD OF LawS4427CUnwrap: from the walk to the statement. After the guide's worked family Tag. -/
import Derived.Test.YbulkcmquFmtUnw
import Derived.Test.YbulkcmquFmtCards
import Derived.ProofKit
import Derived.SliceStrings
import Derived.ChangeSame
import Derived.JoinedOf
import Derived.Carry
import Derived.Stop.JoinedAt
import Derived.Stop.Texts
import Derived.Stop.JoinedTold
import Derived.SevenToldRow
import Derived.SizedLaws
namespace Go.Proofs.YbulkcmquFmt
open Go.ChangeShapes Go.WideShapes Go.ChangeAt Go.RowKit Go.Kit
open Go.Extern.Stop Go.Stop Go.Extern

theorem Ybaf.own : ownKnob Ybaf.prog.godebug = none := by kernel_rfl
theorem Ybaf.laidOut : laidOutB Ybaf.pinned.checked.prog = true := by kernel_rfl
theorem Ybaf.cells9 : Ybaf.prog.cellsOf 9 = 1 := by kernel_rfl
theorem Ybaf.stops : Ybaf.pinned.checked.prog.stops = ["fmt.Sprintf", "fmt.errorf"] := by kernel_rfl
theorem Ybaf.stopKnobs : Ybaf.pinned.checked.prog.stopKnobs = [] := by kernel_rfl
theorem Ybaf.quiet (os : Os) : Stop.quiet Ybaf.pinned.checked.prog os := by
  intro k hk
  rw [Ybaf.stopKnobs] at hk
  cases hk

/-- WHAT A WALK IS TOLD OF A SLICE OF STRINGS THAT CAME IN. -/
def IsStrs (w : World) (a : Option Addr) (len cap : Nat) (ss : List ByteArray) : Prop :=
  (a = none ∧ len = 0 ∧ cap = 0 ∧ ss = []) ∨
  ∃ x, a = some x ∧ len ≤ cap ∧ cap ≤ maxLen ∧ ss.length = cap ∧ (∀ i, i < ss.length → w.cell? (x.add i) = some (.string (ss.getD i ByteArray.empty))) ∧ ∀ s ∈ ss, s.size ≤ maxLen

theorem strs_at {w : World} {a : Addr} {ss : List ByteArray} (h : ∀ i, i < ss.length → w.cell? (a.add i) = some (.string (ss.getD i ByteArray.empty))) (hp : 0 < ss.length) :
    ∃ b off, a = ⟨b, off, none⟩ ∧ ∀ j, j < ss.length → w.cell? ⟨b, off + j, none⟩ = some (.string (ss.getD j ByteArray.empty)) := by
  obtain ⟨b, off, spot⟩ := a
  have hspot : spot = none := by simpa [Addr.add] using World.cell?_spot (h 0 hp)
  subst hspot
  exact ⟨b, off, rfl, fun j hj => by rw [← Go.WideShapes.add_plain]; exact h j hj⟩

theorem weightsAll_strs {H : Type} {P : Program} {e : TypeId} : ∀ {ss : List ByteArray} {s : ByteArray}, s ∈ ss → s.data.toList.length ∈ DataW.weightsAll P e (strs (H := H) ss)
  | x :: xs, s, h => by
    simp only [strs, List.map_cons, DataW.weightsAll, List.mem_append]
    rcases List.mem_cons.1 h with rfl | h
    · left; simp [DataW.weights]
    · right; exact weightsAll_strs h
  | [], _, h => by cases h

/-- Each string of a slice of strings keeps within the form's reach. -/
theorem sized_strs {H : Type} {P : Program} {ts : List TypeId} {ds : List (DataW H)} (h : (DataW.weightsEach P ts ds).all (· ≤ reachBytes) = true) {j : Nat} {t e : TypeId} {ss : List ByteArray} {spare : List (DataW H)} (ht : ts[j]? = some t)
    (hd : ds[j]? = some (.slice (strs ss) spare)) (hu : P.underlying t = some (.slice e)) : ∀ s ∈ ss, s.size ≤ reachBytes := by
  intro s hs
  have := List.all_eq_true.1 h _ (DataW.weights_mem_each ht hd s.data.toList.length (by
    simp only [DataW.weights, hu]
    exact List.mem_cons_of_mem _ (List.mem_append_left _ (weightsAll_strs hs))))
  simpa using this

theorem unw_walk (F : Interp) (a : Option Addr) (len cap : Nat) (ss : List ByteArray) (w : World) (hF : F.answers w.tape) (h : IsStrs w a len cap ss) (hs : ∀ s ∈ ss.take len, s.size ≤ 140737488355328) :
    Calls Ybaf.prog 6 #[.slice a len cap] w fun e w' => e = .returned (.bool true) ∧ Below w.heap.size w w' := by
  rcases h with ⟨rfl, rfl, rfl, _⟩ | ⟨x, rfl, hl, hm, hz, hcell, _⟩
  · exact unw_nil w
  · by_cases hbig : 1024 < len
    · exact unw_big _ _ _ _ hbig (Nat.le_trans hl hm)
    · by_cases h0 : len = 0
      · subst h0
        exact unw_zero x cap w
      · obtain ⟨b, off, rfl, hc⟩ := strs_at hcell (by omega)
        have hb : b < w.heap.size := World.block_lt_of_cell? w _ (hc 0 (by omega))
        refine unw_some F b off len cap (fun j => ss.getD j ByteArray.empty) w hF (by omega) (by omega) hb ?_ (fun j hj => hc j (by omega))
        refine hs _ ?_
        rw [List.mem_take_iff_getElem]
        exact ⟨0, by omega, by simp [List.getD, show 0 < ss.length by omega]⟩

set_option maxRecDepth 100000 in
theorem unw_lifted (os : Os) (started : os.Started) (H : Type) (enc : TypeId × Value → H) :
    ReturnsInTold none {} Ybaf.checked os 6 .any Input.okWide ((OpenSpec.ofChange Rows.lawS4427CUnwrapSpec).preRow enc Ybaf.prog Ybaf.f6 [] false []) (fun F => ((OpenSpec.ofChange Rows.lawS4427CUnwrapSpec).at F).post enc Ybaf.prog Ybaf.f6 false true false false) (aloneAtReturn Ybaf.prog) nothingAlways := by
  refine returnsInTold_of_row (C := Ybaf.checked) (s := OpenSpec.ofChange Rows.lawS4427CUnwrapSpec) (by kernel_rfl) Ybaf.own started (by kernel_rfl) Ybaf.func6
    (OpenSpec.witness_stopped (enc := enc) (C := Ybaf.checked) false ⟨#[], #[.slice none 0 0], []⟩ 8 (by kernel_rfl) (by kernel_rfl) (by kernel_rfl) (by kernel_rfl)) ?_
  intro F W base args ds gs before _ hF hval0 hW _ _ hsz _ _
  have hval : ∀ (j : Nat) t v, Ybaf.f6.params[j]? = some t → args[j]? = some v → Value.okWide Ybaf.prog W .any base t v := hval0
  have hW' := hW
  obtain ⟨p, q, hA0, hV, rfl, _, _⟩ := hW
  have hA : DataW.TrodAll enc Ybaf.prog W 0 (fun _ => true) true Ybaf.f6.params.toList args.toList ds p := hA0
  rw [Ybaf.params6] at hA hval
  obtain ⟨v0, d0, rfl, rfl, h0⟩ := trodAll_one hA
  obtain ⟨rfl, rfl⟩ := trodVars_none hV
  obtain ⟨a0, len, cap, rfl⟩ := okWide_slice Ybaf.underlying26 (hval 0 26 v0 rfl rfl)
  have h0k := h0
  obtain ⟨fuel, hf⟩ := h0
  clear hA0 hval0
  simp only [List.append_nil] at hW'
  have hlt : ∀ x ∈ p, x.block < W.heap.size := fun x hx => by simpa using hW'.lt x hx
  obtain ⟨ss, hss, hsize⟩ : ∃ ss, IsStrs W a0 len cap ss ∧ ∀ s ∈ ss.take len, s.size ≤ 140737488355328 := by
    rcases open_strings Ybaf.underlying26 Ybaf.underlying9 Ybaf.cells9 hf with ⟨hcs, _⟩ | ⟨x, l, c, ss, hcs, _, hl, hm, hz, hx, hcell, hws⟩
    · simp [Value.cells] at hcs
      obtain ⟨rfl, rfl, rfl⟩ := hcs
      exact ⟨[], .inl ⟨rfl, rfl, rfl, rfl⟩, by simp⟩
    · simp [Value.cells] at hcs
      obtain ⟨rfl, rfl, rfl⟩ := hcs
      simp only [Prod.mk.injEq] at hx
      refine ⟨ss, .inr ⟨_, rfl, hl, hm, by simpa using hz, hcell, hws⟩, fun s hs => ?_⟩
      have h1 := sized_strs hsz (j := 0) (t := 26) (e := 9) rfl (by rw [hx.1]; rfl) Ybaf.underlying26 s hs
      have h2 := reachBytes_lt
      omega
  refine (unw_walk F.told a0 len cap ss W hF hss hsize).mono fun e W' ⟨he, bel⟩ => ?_
  subst he
  exact ⟨_, rfl, _, _, _, [], _, [], hW', trodAll_mk1 (shut_bool Ybaf.underlying4 _), trodAll_mk1 (Below.trod Ybaf.laidOut (by kernel_rfl) (of_decide_eq_true (by kernel_rfl)) h0k bel hlt), rfl, bel.frame _, fun h => by cases h⟩

theorem unw_proved : Rows.LawS4427CUnwrapToldSaid :=
  Claim7.holds_of_told_any 6 Ybaf.f6 "fmt.Sprintf" ["fmt.errorf"] [] _ _ _ (by kernel_rfl) rfl rfl rfl Ybaf.laidOut (by kernel_rfl) rfl ⟨rfl, rfl, rfl, rfl, rfl, rfl, rfl⟩ rfl rfl (by kernel_rfl) (by kernel_rfl) Ybaf.func6 (by kernel_rfl)
    (of_decide_eq_true (by kernel_rfl)) (by unfold Func.isWrapper; first | (rw [if_pos (by decide +kernel)]; kernel_rfl) | (rw [if_neg (by decide +kernel)]; exact ⟨rfl, rfl⟩)) Ybaf.stops.symm rfl Ybaf.stopKnobs.symm (by kernel_rfl)
    (by kernel_rfl) (by kernel_rfl) (by kernel_rfl) (by kernel_rfl) (by kernel_rfl) (by kernel_rfl) (by kernel_rfl) (by kernel_rfl) (by kernel_rfl) rfl (by kernel_rfl) rfl rfl
    rfl rfl
    rfl (by kernel_rfl) (by kernel_rfl) (by kernel_rfl) (by decide) (by kernel_rfl)
    (OpenClaim.moreEntering_of (by kernel_rfl) (by kernel_rfl) (by kernel_rfl) (by kernel_rfl) (by kernel_rfl) (by kernel_rfl) (by kernel_rfl) (by kernel_rfl) (by kernel_rfl) (by kernel_rfl))
    ⟨_, WideRow.started_initial, Ybaf.quiet _⟩
    (fun os started _ H enc _ => unw_lifted os started H enc)
end Go.Proofs.YbulkcmquFmt
