/- A SLICE OF STRUCTS OF WHOLE NUMBERS, OPENED. -/
import Derived.Test.YbulkcmtmRows
import Derived.Test.YbulkcmtmCheck
import Derived.WalkKit
import Derived.ProofKit
import Derived.OpenShut
import Derived.ChangeOld
import Derived.Below
import Derived.Deep.Grids
import Derived.Deep.SlicePairs
namespace Go.Proofs.Ybulkcmtm
open Go.ChangeShapes Go.WideShapes Go.ChangeAt Go.RowKit Go.Deep

section
variable {H : Type} {enc : TypeId × Value → H} {P : Program} {w : World} {base : Nat} {spare : Nat → Bool} {held : Bool}

theorem open_rows {t e : TypeId} {fs : Array Field} {ks : Nat → IntKind} {fuel : Nat} {cs : List Value} {x : DataW H × List MemPlace} (ht : P.underlying t = some (.slice e)) (he : P.underlying e = some (.struct fs))
    (ce : P.cellsOf e = fs.size) (hf : ∀ (c : Nat) (f : Field), fs[c]? = some f → f.offset = c ∧ P.cellsOf f.type = 1 ∧ P.underlying f.type = some (.int (ks c))) (h : DataW.trod enc P w base spare held fuel t cs = some x) :
    cs = [.slice none 0 0] ∨ ∃ (a : Addr) (len cap : Nat) (F : Nat → Nat → Int), cs = [.slice (some a) len cap] ∧
      ∀ i, i < len → ∀ c, c < fs.size → w.cell? (a.add (i * fs.size + c)) = some (.int (ks c) (F i c)) ∧ (Lit.int (ks c) (F i c)).wf = true := by
  rcases open_slice ht h with ⟨h0, _⟩ | ⟨a, len, cap, m, n, D, Pl, rfl, hb, hl, hm, hmm, rfl, hx⟩
  · exact Or.inl h0
  right
  have hlm : len ≤ m := by rw [hmm]; split <;> omega
  have each : ∀ i, i < len → ∃ g : Nat → Int, ∀ c, c < fs.size → w.cell? (a.add (i * fs.size + c)) = some (.int (ks c) (g c)) ∧ (Lit.int (ks c) (g c)).wf = true := by
    intro i hi
    obtain ⟨cs', h1, h2⟩ := hx i (by omega)
    rw [ce] at h1
    obtain ⟨_, hlen, hcell⟩ := World.cells?_some h1
    obtain ⟨xs, k, _, _, _, hxl, hff⟩ := DataW.trod_struct he h2
    refine choose_lt (α := Int) (p := fun c v => w.cell? (a.add (i * fs.size + c)) = some (.int (ks c) v) ∧ (Lit.int (ks c) v).wf = true) ?_
    intro c hc
    have hfc : fs[c]? = some fs[c] := Array.getElem?_eq_getElem hc
    obtain ⟨f1, f2, f3⟩ := hf c _ hfc
    have g := hff c _ hfc
    rw [f1, f2, List.getElem?_eq_getElem (by omega)] at g
    obtain ⟨v, hv, _, hw⟩ := DataW.trod_int f3 g
    refine ⟨v, ?_, hw⟩
    have := hcell c hc
    rw [add_add] at this
    rw [this]
    have h3 : (cs'.drop c).take 1 = [cs'[c]] := by
      rw [List.drop_eq_getElem_cons (by omega)]; rfl
    rw [h3] at hv
    rw [List.getElem?_eq_getElem (by omega), List.singleton_inj.1 hv]
  obtain ⟨F, hF⟩ := choose_lt each
  exact ⟨a, len, cap, F, rfl, hF⟩
end

theorem add_cell {w : World} {a : Addr} {v : Value} (h : w.cell? a = some v) : ∃ b off, a = ⟨b, off, none⟩ := by
  obtain ⟨b, off, sp⟩ := a
  cases sp with
  | none => exact ⟨b, off, rfl⟩
  | some s =>
    simp [World.cell?] at h
    split at h <;> cases h

theorem wf_u8 {s : Int} (h : (Lit.int .u8 s).wf = true) : 0 ≤ s ∧ s ≤ 255 := by
  simp [Lit.wf, IntKind.min, IntKind.max, IntKind.signed, IntKind.bits] at h
  omega
theorem wf_i8 {s : Int} (h : (Lit.int .i8 s).wf = true) : -128 ≤ s ∧ s ≤ 127 := by
  simp [Lit.wf, IntKind.min, IntKind.max, IntKind.signed, IntKind.bits] at h
  omega
end Go.Proofs.Ybulkcmtm
