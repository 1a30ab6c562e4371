/- From the memory that LawS4431CYields has laid to the row that busyHeads walks; the list 'want'. -/
import Derived.Test.YbulkcmsyState
import Derived.Test.YbulkcmsyHeads
namespace Go.Proofs.Ybulkcmsy
open Go.RowKit

section
variable {w W : World} {row mo : Nat} {t : Option Addr} {kb : Option Nat} {kt : Option Addr} {L : List (Nat × Option Addr)} {A : List Nat} {Fl : List Bool} {vA vF vT : Value}

/-- A third list of entries grows. -/
theorem St.appW {W' : World} {vW : Value} {m : Nat} {xs : List Value} (h : St w W row mo t kb kt L A Fl vA vF vT) (ho : W.ownsRow w.heap.size 24 1 vW m xs) (d1 : vA.ownBlock = none ∨ vA.ownBlock ≠ vW.ownBlock) (d2 : vT.ownBlock = none ∨ vT.ownBlock ≠ vW.ownBlock)
    (hg : W.grownBy W' vW.ownBlock) : St w W' row mo t kb kt L A Fl vA vF vT :=
  ⟨h.old.grown hg h.old.size (fun k e => (ho.lt k e).1), rowIs_grown h.tbl hg (own_ne_row ho h.tbl (by decide)), rowIs_grown h.rowc hg (own_ne_row ho h.rowc (by decide)), rowIs_grown h.more hg (own_ne_row ho h.more (by decide)),
    fun b e => rowIs_grown (h.key b e) hg (own_ne_row ho (h.key b e) (by decide)), fun x hx => rowIs_grown (h.attr x hx) hg (own_ne_row ho (h.attr x hx) (by decide)), h.all.kept hg d1, h.flg.kept hg (own_ne_own h.flg ho (by decide)), h.att.kept hg d2, h.apart, h.lo⟩

/-- A new own block is none that lay there. -/
theorem apart_of_at {v vW : Value} {base : Nat} {e : TypeId} {m : Nat} {xs : List Value} (h : W.ownsRow base e 1 v m xs) {g : Nat} (d : v.ownBlock = none ∨ v.ownBlock ≠ vW.ownBlock) (hat : vW.ownBlock = some g ∨ g = W.heap.size) : v.ownBlock = none ∨ v.ownBlock ≠ some g := by
  rcases d with d | d
  · exact .inl d
  · right
    rcases hat with hat | hat
    · rw [← hat]; exact d
    · intro e
      have := (h.lt g e).2
      omega

theorem St.rowAt (h : St w W row mo t kb kt L A Fl vA vF vT) : ∃ a c, vT = .slice a L.length c ∧ RowAt W row mo t kb kt a L.length c (fun k => (L.getD k (0, none)).1) (fun k => (L.getD k (0, none)).2) := by
  have par : ∀ {x : Nat} {t' : Option Addr} {nm : ByteArray} {m : Option Nat}, W.rowIs x 31 9 (leafCell t' nm row m) → ∃ p q : Nat, W.cell? ⟨x, 7, none⟩ = some (.pointer (some ⟨p, 0, none⟩)) ∧ W.cell? ⟨p, 7, none⟩ = some (.pointer (some ⟨q, 0, none⟩)) :=
    fun hx => ⟨row, w.heap.size + 1, hx.cell (i := 7) (by omega), h.rowc.cell (i := 7) (by omega)⟩
  have hd : ∀ {x : Nat} {t' : Option Addr} {nm : ByteArray}, W.rowIs x 31 9 (leafCell t' nm row none) → Head W x t' none := fun hx => ⟨hx.cell (i := 0) (by omega), par hx, hx.cell (i := 8) (by omega), fun b e => by cases e⟩
  obtain ⟨a, c, hv, hel⟩ : ∃ a c, vT = .slice a L.length c ∧ ∀ k, k < L.length → ∃ b off, a = some ⟨b, off, none⟩ ∧ W.cell? ⟨b, off + k, none⟩ = some (.pointer (some ⟨(L.getD k (0, none)).1, 0, none⟩)) := by
    by_cases h0 : 0 < L.length
    · obtain ⟨g, cap, hv, _, _⟩ := h.att.form h0
      refine ⟨some ⟨g, 0, none⟩, cap, hv, fun k hk => ⟨g, 0, rfl, ?_⟩⟩
      have ha := h.att
      rw [hv] at ha
      have := ha.cellAt k (by omega)
      rw [Nat.zero_add, this]
      simp [hk, ptr]
    · rcases h.att.2 with ⟨hv, _⟩ | ⟨g, cap, cur, hv, _⟩
      · exact ⟨none, 0, by rw [hv]; simp; omega, fun k hk => by omega⟩
      · exact ⟨_, _, hv, fun k hk => by omega⟩
  refine ⟨a, c, hv, ⟨⟨h.rowc.cell (i := 0) (by omega), ⟨w.heap.size + 1, w.heap.size, h.rowc.cell (i := 7) (by omega), h.tbl.cell (i := 7) (by omega)⟩, h.rowc.cell (i := 8) (by omega), fun b e => by
    cases e; exact ⟨h.more.cell (i := 2) (by omega), h.more.cell (i := 3) (by omega)⟩⟩, h.more.cell (i := 5) (by omega), h.more.cell (i := 6) (by omega), fun b e => hd (h.key b e), ?_, hel, fun k hk => hd (h.attr _ ?_)⟩⟩
  · rw [← hv]; exact h.more.cell (i := 7) (by omega)
  · simp [List.getD, hk]
end

/-- The busy ones of the first j entries. -/
def wants (H : List (Nat × Option Addr)) (j : Nat) : List Nat := ((H.take j).filter (·.2.isSome)).map (·.1)

theorem wants_succ (H : List (Nat × Option Addr)) (j : Nat) (h : j < H.length) : wants H (j + 1) = wants H j ++ came H[j].1 H[j].2 := by
  unfold wants came
  rw [List.take_succ_eq_append_getElem h, List.filter_append, List.map_append]
  congr 1
  cases hs : H[j].2.isSome <;> simp [hs]

theorem wants_length (H : List (Nat × Option Addr)) (j : Nat) : (wants H j).length ≤ j := by
  unfold wants
  have h1 := List.length_filter_le (fun x : Nat × Option Addr => x.2.isSome) (H.take j)
  have h2 := List.length_take_le j H
  simp; omega

theorem filter_came (L : List (Nat × Option Addr)) : (L.filter (·.2.isSome)).map (·.1) = L.flatMap fun x => came x.1 x.2 := by
  induction L with
  | nil => rfl
  | cons x xs ih =>
    cases hs : x.2.isSome <;> simp [hs, came, ih]

theorem busyRow_eq (row : Nat) (t : Option Addr) (kb : Option Nat) (kt : Option Addr) (L : List (Nat × Option Addr)) :
    busyRow row t kb kt (fun k => (L.getD k (0, none)).1) (fun k => (L.getD k (0, none)).2) L.length = wants (hds row t kb kt L) (hds row t kb kt L).length := by
  unfold wants
  rw [List.take_of_length_le (Nat.le_refl _), filter_came]
  have e : busyAttrs (fun k => (L.getD k (0, none)).1) (fun k => (L.getD k (0, none)).2) L.length = L.flatMap fun x => came x.1 x.2 := by
    unfold busyAttrs
    have : L = (List.range L.length).map fun k => L.getD k (0, none) := by
      apply List.ext_getElem
      · simp
      · intro i h1 h2; simp [List.getD, h1]
    conv => rhs; rw [this]
    rw [List.flatMap_map]
  unfold busyRow
  rw [e]
  cases kb <;> simp [hds, busyKey]
end Go.Proofs.Ybulkcmsy
