/- THE MEMORY THAT LawS4431CYields HAS LAID: its lock table, the list of all entries, the list of flags; how each step keeps it. -/
import Derived.Test.YbulkcmsyLeaf
import Derived.Deep.AppendLies
namespace Go.Proofs.Ybulkcmsy
open Go.RowKit

def ptr (x : Nat) : Value := .pointer (some ⟨x, 0, none⟩)

/-- The ten cells of a row's 'more'. -/
def moreCell (kb : Option Nat) (vT : Value) : Nat → Value
  | 0 => .int .i32 0
  | 1 => .int .u32 0
  | 2 => .pointer none
  | 3 => .pointer none
  | 4 => .int .i64 0
  | 5 => .pointer none
  | 6 => .pointer (kb.map fun b => ⟨b, 0, none⟩)
  | 7 => vT
  | 8 => .bool false
  | _ => .int .i32 0

/-- A: the entries in 'all' · Fl: 'flags' · L: the row's attributes with their transactions. -/
structure St (w W : World) (row mo : Nat) (t : Option Addr) (kb : Option Nat) (kt : Option Addr) (L : List (Nat × Option Addr)) (A : List Nat) (Fl : List Bool) (vA vF vT : Value) : Prop where
  old : Below w.heap.size w W
  tbl : W.rowIs (w.heap.size + 1) 31 9 (leafCell none ⟨#[116]⟩ w.heap.size none)
  rowc : W.rowIs row 31 9 (leafCell t ⟨#[114]⟩ (w.heap.size + 1) (some mo))
  more : W.rowIs mo 45 10 (moreCell kb vT)
  key : ∀ b, kb = some b → W.rowIs b 31 9 (leafCell kt ⟨#[]⟩ row none)
  attr : ∀ x ∈ L, W.rowIs x.1 31 9 (leafCell x.2 ⟨#[97]⟩ row none)
  all : W.ownsRow w.heap.size 24 1 vA A.length (A.map ptr)
  flg : W.ownsRow w.heap.size 4 1 vF Fl.length (Fl.map Value.bool)
  att : W.ownsRow w.heap.size 24 1 vT L.length (L.map fun x => ptr x.1)
  apart : vT.ownBlock = none ∨ vT.ownBlock ≠ vA.ownBlock
  lo : w.heap.size ≤ mo

theorem grownBy_of_below {W W' : World} (hb : Below W.heap.size W W') (r : Option Nat) : W.grownBy W' r := ⟨hb.os, hb.tape, hb.output, hb.size, fun k hk _ => hb.block k hk⟩

theorem rowIs_grown {W W' : World} {b : Nat} {t : TypeId} {n : Nat} {f : Nat → Value} {r : Option Nat} (h : W.rowIs b t n f) (hg : W.grownBy W' r) (hr : some b ≠ r) : W'.rowIs b t n f :=
  h.of_block (hg.block b h.lt hr)

/-- A row of another element type than a value owns is none of its cells. -/
theorem own_ne_row {W : World} {base : Nat} {e : TypeId} {size : Nat} {v : Value} {m : Nat} {xs : List Value} (h : W.ownsRow base e size v m xs) {b : Nat} {t : TypeId} {n : Nat} {f : Nat → Value} (hr : W.rowIs b t n f) (hte : t ≠ e) :
    some b ≠ v.ownBlock := by
  rcases h.2 with ⟨rfl, _⟩ | ⟨g, cap, cur, rfl, _, hg, _⟩
  · simp [Value.ownBlock]
  · intro hb
    obtain rfl : b = g := by simpa [Value.ownBlock] using hb
    obtain ⟨c, hc, _, _⟩ := hr
    rw [hc] at hg
    cases hg
    exact hte rfl

theorem own_ne_own {W : World} {base base' : Nat} {e e' : TypeId} {size size' : Nat} {v v' : Value} {m m' : Nat} {xs xs' : List Value} (h : W.ownsRow base e size v m xs) (h' : W.ownsRow base' e' size' v' m' xs') (hte : e ≠ e') :
    v.ownBlock = none ∨ v.ownBlock ≠ v'.ownBlock := by
  rcases h.2 with ⟨rfl, _⟩ | ⟨g, cap, cur, rfl, _, hg, _⟩
  · exact .inl rfl
  · right
    rcases h'.2 with ⟨rfl, _⟩ | ⟨g', cap', cur', rfl, _, hg', _⟩
    · simp [Value.ownBlock]
    · intro hb
      obtain rfl : g = g' := by simpa [Value.ownBlock] using hb
      rw [hg] at hg'
      cases hg'
      exact hte rfl

section
variable {w W : World} {row mo : Nat} {t : Option Addr} {kb : Option Nat} {kt : Option Addr} {L : List (Nat × Option Addr)} {A : List Nat} {Fl : List Bool} {vA vF vT : Value}

/-- New memory alone. -/
theorem St.below {W' : World} (h : St w W row mo t kb kt L A Fl vA vF vT) (hb : Below W.heap.size W W') : St w W' row mo t kb kt L A Fl vA vF vT := by
  have hg := grownBy_of_below hb none
  exact ⟨h.old.trans (hb.mono h.old.size), rowIs_grown h.tbl hg (by simp), rowIs_grown h.rowc hg (by simp), rowIs_grown h.more hg (by simp), fun b e => rowIs_grown (h.key b e) hg (by simp),
    fun x hx => rowIs_grown (h.attr x hx) hg (by simp), h.all.kept (grownBy_of_below hb (some W.heap.size)) (by
      rcases hv : vA.ownBlock with _ | g
      · exact .inl rfl
      · have := (h.all.lt g hv).2; right; simp; omega), h.flg.kept (grownBy_of_below hb (some W.heap.size)) (by
      rcases hv : vF.ownBlock with _ | g
      · exact .inl rfl
      · have := (h.flg.lt g hv).2; right; simp; omega), h.att.kept (grownBy_of_below hb (some W.heap.size)) (by
      rcases hv : vT.ownBlock with _ | g
      · exact .inl rfl
      · have := (h.att.lt g hv).2; right; simp; omega), h.apart, h.lo⟩

/-- 'all = append(all, x)'. -/
theorem St.appA {W' : World} {x g cap : Nat} (h : St w W row mo t kb kt L A Fl vA vF vT) (hg : W.grownBy W' vA.ownBlock)
    (ho : W'.ownsRow w.heap.size 24 1 (.slice (some ⟨g, 0, none⟩) (A.length + 1) cap) (A.length + 1) (A.map ptr ++ [ptr x])) (hat : vA.ownBlock = some g ∨ g = W.heap.size) :
    St w W' row mo t kb kt L (A ++ [x]) Fl (.slice (some ⟨g, 0, none⟩) (A.length + 1) cap) vF vT := by
  refine ⟨h.old.grown hg h.old.size (fun k e => (h.all.lt k e).1), rowIs_grown h.tbl hg (own_ne_row h.all h.tbl (by decide)), rowIs_grown h.rowc hg (own_ne_row h.all h.rowc (by decide)), rowIs_grown h.more hg (own_ne_row h.all h.more (by decide)),
    fun b e => rowIs_grown (h.key b e) hg (own_ne_row h.all (h.key b e) (by decide)), fun x hx => rowIs_grown (h.attr x hx) hg (own_ne_row h.all (h.attr x hx) (by decide)), ?_, h.flg.kept hg (own_ne_own h.flg h.all (by decide)), h.att.kept hg h.apart, ?_, h.lo⟩
  · simpa using ho
  · rcases hv : vT.ownBlock with _ | k
    · exact .inl rfl
    · right
      rcases hat with hat | hat
      · have := h.apart
        rw [hv, hat] at this
        simpa [Value.ownBlock] using this
      · have := (h.att.lt k hv).2
        simp [Value.ownBlock]; omega

/-- 'flags = append(flags, b)'. -/
theorem St.appF {W' : World} {b : Bool} {vF' : Value} (h : St w W row mo t kb kt L A Fl vA vF vT) (hg : W.grownBy W' vF.ownBlock)
    (ho : W'.ownsRow w.heap.size 4 1 vF' (Fl.length + 1) (Fl.map Value.bool ++ [.bool b])) :
    St w W' row mo t kb kt L A (Fl ++ [b]) vA vF' vT := by
  refine ⟨h.old.grown hg h.old.size (fun k e => (h.flg.lt k e).1), rowIs_grown h.tbl hg (own_ne_row h.flg h.tbl (by decide)), rowIs_grown h.rowc hg (own_ne_row h.flg h.rowc (by decide)), rowIs_grown h.more hg (own_ne_row h.flg h.more (by decide)),
    fun b e => rowIs_grown (h.key b e) hg (own_ne_row h.flg (h.key b e) (by decide)), fun x hx => rowIs_grown (h.attr x hx) hg (own_ne_row h.flg (h.attr x hx) (by decide)), h.all.kept hg (own_ne_own h.all h.flg (by decide)), ?_, h.att.kept hg (own_ne_own h.att h.flg (by decide)), h.apart, h.lo⟩
  simpa using ho

theorem more_set {W : World} {v : Value} (h : W.rowIs mo 45 10 (moreCell kb vT)) : (W.setCell ⟨mo, 7, none⟩ v).rowIs mo 45 10 (moreCell kb v) :=
  (h.set 7 v).congr fun i hi => by
    match i, hi with
    | 0, _ => rfl
    | 1, _ => rfl
    | 2, _ => rfl
    | 3, _ => rfl
    | 4, _ => rfl
    | 5, _ => rfl
    | 6, _ => rfl
    | 7, _ => rfl
    | 8, _ => rfl
    | 9, _ => rfl

theorem ownsRow_setCell_type {W : World} {base : Nat} {e : TypeId} {v : Value} {m : Nat} {xs : List Value} (h : W.ownsRow base e 1 v m xs) {b o : Nat} {t : TypeId} {n : Nat} {f : Nat → Value} (hr : W.rowIs b t n f) (hte : t ≠ e) (u : Value) :
    (W.setCell ⟨b, o, none⟩ u).ownsRow base e 1 v m xs :=
  h.kept (row := some b) ⟨rfl, rfl, rfl, by simp [World.setCell], fun k _ hk => Below.heap_setCell _ _ _ _ (fun e => hk (by rw [e]))⟩ (by
    have := own_ne_row h hr hte
    rcases hv : v.ownBlock with _ | g
    · exact .inl rfl
    · right; rw [hv] at this; exact fun e => this e.symm)

/-- 'row.more.attrs = append(row.more.attrs, x)', x a new attribute's entry. -/
theorem St.appT {W' : World} {x g cap : Nat} {t' : Option Addr} (h : St w W row mo t kb kt L A Fl vA vF vT) (hx : W.rowIs x 31 9 (leafCell t' ⟨#[97]⟩ row none)) (hg : W.grownBy W' vT.ownBlock)
    (ho : W'.ownsRow w.heap.size 24 1 (.slice (some ⟨g, 0, none⟩) (L.length + 1) cap) (L.length + 1) ((L.map fun x => ptr x.1) ++ [ptr x])) (hat : vT.ownBlock = some g ∨ g = W.heap.size) :
    St w (W'.setCell ⟨mo, 7, none⟩ (.slice (some ⟨g, 0, none⟩) (L.length + 1) cap)) row mo t kb kt (L ++ [(x, t')]) A Fl vA vF (.slice (some ⟨g, 0, none⟩) (L.length + 1) cap) := by
  have m1 : W'.rowIs mo 45 10 (moreCell kb vT) := rowIs_grown h.more hg (own_ne_row h.att h.more (by decide))
  have ne : ∀ {b : Nat} {f : Nat → Value}, W'.rowIs b 31 9 f → b ≠ mo := fun hb e => by
    subst e
    obtain ⟨c, hc, _, _⟩ := hb
    obtain ⟨c', hc', _, _⟩ := m1
    rw [hc] at hc'; cases hc'
  have k1 : ∀ {b : Nat} {f : Nat → Value}, W.rowIs b 31 9 f → (W'.setCell ⟨mo, 7, none⟩ (.slice (some ⟨g, 0, none⟩) (L.length + 1) cap)).rowIs b 31 9 f := fun hb => by
    have hb' := rowIs_grown hb hg (own_ne_row h.att hb (by decide))
    exact hb'.setOther (ne hb') _
  have a1 : W'.ownsRow w.heap.size 24 1 vA A.length (A.map ptr) := h.all.kept hg (by
    rcases hv : vA.ownBlock with _ | k
    · exact .inl rfl
    · right
      rcases h.apart with ha | ha
      · rw [ha]; simp
      · rw [hv] at ha; exact fun e => ha e.symm)
  refine ⟨(h.old.grown hg h.old.size (fun k e => (h.att.lt k e).1)).setCell (p := ⟨mo, 7, none⟩) h.lo _, k1 h.tbl, k1 h.rowc, more_set m1, fun b e => k1 (h.key b e), fun y hy => ?_, ownsRow_setCell_type a1 m1 (by decide) _,
    ownsRow_setCell_type (h.flg.kept hg (own_ne_own h.flg h.att (by decide))) m1 (by decide) _, ?_, ?_, h.lo⟩
  · rcases List.mem_append.1 hy with hy | hy
    · exact k1 (h.attr y hy)
    · simp at hy; subst hy; exact k1 hx
  · have := ownsRow_setCell_type ho m1 (by decide) (o := 7) (.slice (some ⟨g, 0, none⟩) (L.length + 1) cap)
    simpa using this
  · right
    rcases hat with hat | hat
    · rcases h.apart with ha | ha
      · rw [ha] at hat; cases hat
      · rw [hat] at ha; simpa [Value.ownBlock] using ha
    · intro e
      have := h.all.lt g (by rw [← e]; rfl)
      omega

theorem St.drew (h : St w W row mo t kb kt L A Fl vA vF vT) : St w W.drew row mo t kb kt L A Fl vA vF vT :=
  ⟨h.old.drew, h.tbl, h.rowc, h.more, h.key, h.attr, h.all, h.flg, h.att, h.apart, h.lo⟩

/-- What lies there behind the append to the row's attributes, ahead of the store. -/
theorem St.afterT {W' : World} (h : St w W row mo t kb kt L A Fl vA vF vT) (hg : W.grownBy W' vT.ownBlock) :
    W'.cell? ⟨row, 8, none⟩ = some (.pointer (some ⟨mo, 0, none⟩)) ∧ W'.cell? ⟨mo, 7, none⟩ = some vT ∧ W'.frozen? ⟨mo, 7, none⟩ = false := by
  have m1 := rowIs_grown h.more hg (own_ne_row h.att h.more (by decide))
  have r1 := rowIs_grown h.rowc hg (own_ne_row h.att h.rowc (by decide))
  exact ⟨r1.cell (i := 8) (by omega), m1.cell (i := 7) (by omega), m1.frozen 7⟩

/-- 'row.more.key = k', k a new entry below the row. -/
theorem key_set {W : World} {b : Nat} (h : W.rowIs mo 45 10 (moreCell none vT)) : (W.setCell ⟨mo, 6, none⟩ (.pointer (some ⟨b, 0, none⟩))).rowIs mo 45 10 (moreCell (some b) vT) :=
  (h.set 6 _).congr fun i hi => by
    match i, hi with
    | 0, _ => rfl
    | 1, _ => rfl
    | 2, _ => rfl
    | 3, _ => rfl
    | 4, _ => rfl
    | 5, _ => rfl
    | 6, _ => rfl
    | 7, _ => rfl
    | 8, _ => rfl
    | 9, _ => rfl

theorem St.keyed {b : Nat} {kt' : Option Addr} (h : St w W row mo t none kt L A Fl vA vF vT) (hb : W.rowIs b 31 9 (leafCell kt' ⟨#[]⟩ row none)) :
    St w (W.setCell ⟨mo, 6, none⟩ (.pointer (some ⟨b, 0, none⟩))) row mo t (some b) kt' L A Fl vA vF vT := by
  have ne : ∀ {b : Nat} {f : Nat → Value}, W.rowIs b 31 9 f → b ≠ mo := fun hb e => by
    subst e
    obtain ⟨c, hc, _, _⟩ := hb
    obtain ⟨c', hc', _, _⟩ := h.more
    rw [hc] at hc'; cases hc'
  have k1 : ∀ {x : Nat} {f : Nat → Value}, W.rowIs x 31 9 f → (W.setCell ⟨mo, 6, none⟩ (.pointer (some ⟨b, 0, none⟩))).rowIs x 31 9 f := fun hb => hb.setOther (ne hb) _
  refine ⟨h.old.setCell (p := ⟨mo, 6, none⟩) h.lo _, k1 h.tbl, k1 h.rowc, key_set h.more, fun x e => ?_, fun y hy => k1 (h.attr y hy), ownsRow_setCell_type h.all h.more (by decide) _, ownsRow_setCell_type h.flg h.more (by decide) _,
    ownsRow_setCell_type h.att h.more (by decide) _, h.apart, h.lo⟩
  cases e
  exact k1 hb
end

/-- The entries in the order in which they are listed. -/
def hds (row : Nat) (t : Option Addr) (kb : Option Nat) (kt : Option Addr) (L : List (Nat × Option Addr)) : List (Nat × Option Addr) := (row, t) :: ((match kb with | some b => [(b, kt)] | Option.none => []) ++ L)
def hdA (row : Nat) (t : Option Addr) (kb : Option Nat) (kt : Option Addr) (L : List (Nat × Option Addr)) : List Nat := (hds row t kb kt L).map (·.1)
def hdF (row : Nat) (t : Option Addr) (kb : Option Nat) (kt : Option Addr) (L : List (Nat × Option Addr)) : List Bool := (hds row t kb kt L).map (·.2.isSome)

theorem hdA_snoc (row : Nat) (t : Option Addr) (kb : Option Nat) (kt : Option Addr) (L : List (Nat × Option Addr)) (x : Nat × Option Addr) : hdA row t kb kt (L ++ [x]) = hdA row t kb kt L ++ [x.1] := by
  cases kb <;> simp [hdA, hds]
theorem hdF_snoc (row : Nat) (t : Option Addr) (kb : Option Nat) (kt : Option Addr) (L : List (Nat × Option Addr)) (x : Nat × Option Addr) : hdF row t kb kt (L ++ [x]) = hdF row t kb kt L ++ [x.2.isSome] := by
  cases kb <;> simp [hdF, hds]
theorem hdA_length (row : Nat) (t : Option Addr) (kb : Option Nat) (kt : Option Addr) (L : List (Nat × Option Addr)) : (hdA row t kb kt L).length ≤ L.length + 2 := by
  cases kb <;> simp [hdA, hds]
theorem hdF_length (row : Nat) (t : Option Addr) (kb : Option Nat) (kt : Option Addr) (L : List (Nat × Option Addr)) : (hdF row t kb kt L).length = (hdA row t kb kt L).length := by simp [hdA, hdF]

/-- THE START: the row's entry, its 'more', the two lists of one. -/
theorem st_init {w W1 : World} {t kt : Option Addr} (hr : W1.rowIs (w.heap.size + 2) 31 9 (leafCell t ⟨#[114]⟩ (w.heap.size + 1) none))
    (hb : Below (w.heap.size + 2) ((w.alloc (.cells #[.pointer none, .int .u8 0, .int .u8 0, .int .u8 0, .int .u8 0, .int .i32 0, .string ⟨#[]⟩, .pointer none, .pointer none] 31)).alloc
      (.cells #[.pointer none, .int .u8 0, .int .u8 0, .int .u8 0, .int .u8 0, .int .i32 0, .string ⟨#[116]⟩, .pointer (some ⟨w.heap.size, 0, none⟩), .pointer none] 31)) W1) :
    St w ((((W1.setCell ⟨w.heap.size + 2, 8, none⟩ (.pointer (some ⟨W1.heap.size, 0, none⟩))).alloc (.cells #[.int .i32 0, .int .u32 0, .pointer none, .pointer none, .int .i64 0, .pointer none, .pointer none, .slice none 0 0, .bool false, .int .i32 0] 45)).alloc
      (.cells #[.pointer (some ⟨w.heap.size + 2, 0, none⟩)] 24)).alloc (.cells #[.bool t.isSome] 4)) (w.heap.size + 2) W1.heap.size t none kt [] (hdA (w.heap.size + 2) t none kt []) (hdF (w.heap.size + 2) t none kt [])
      (.slice (some ⟨W1.heap.size + 1, 0, none⟩) 1 1) (.slice (some ⟨W1.heap.size + 2, 0, none⟩) 1 1) (.slice none 0 0) := by

  have l1 := hr.lt
  have sz : ∀ v : Value, (W1.setCell ⟨w.heap.size + 2, 8, none⟩ v).heap.size = W1.heap.size := fun v => by simp [World.setCell]
  have r0 : W1.rowIs (w.heap.size + 1) 31 9 (leafCell none ⟨#[116]⟩ w.heap.size none) := by
    refine World.rowIs.of_block (w := (w.alloc (.cells #[.pointer none, .int .u8 0, .int .u8 0, .int .u8 0, .int .u8 0, .int .i32 0, .string ⟨#[]⟩, .pointer none, .pointer none] 31)).alloc
      (.cells #[.pointer none, .int .u8 0, .int .u8 0, .int .u8 0, .int .u8 0, .int .i32 0, .string ⟨#[116]⟩, .pointer (some ⟨w.heap.size, 0, none⟩), .pointer none] 31)) ?_ (hb.block _ (by omega))
    have := World.rowIs_alloc (w.alloc (.cells #[.pointer none, .int .u8 0, .int .u8 0, .int .u8 0, .int .u8 0, .int .i32 0, .string ⟨#[]⟩, .pointer none, .pointer none] 31)) #[.pointer none, .int .u8 0, .int .u8 0, .int .u8 0, .int .u8 0, .int .i32 0, .string ⟨#[116]⟩, .pointer (some ⟨w.heap.size, 0, none⟩), .pointer none] 31 (leafCell none ⟨#[116]⟩ w.heap.size none) (nine ⟨rfl, rfl, rfl, rfl, rfl, rfl, rfl, rfl, rfl⟩)
    simpa using this
  have r1 : (W1.setCell ⟨w.heap.size + 2, 8, none⟩ (.pointer (some ⟨W1.heap.size, 0, none⟩))).rowIs (w.heap.size + 2) 31 9 (leafCell t ⟨#[114]⟩ (w.heap.size + 1) (some W1.heap.size)) :=
    (hr.set 8 _).congr (nine ⟨rfl, rfl, rfl, rfl, rfl, rfl, rfl, rfl, rfl⟩)
  have r2 : ((W1.setCell ⟨w.heap.size + 2, 8, none⟩ (.pointer (some ⟨W1.heap.size, 0, none⟩))).alloc (.cells #[.int .i32 0, .int .u32 0, .pointer none, .pointer none, .int .i64 0, .pointer none, .pointer none, .slice none 0 0, .bool false, .int .i32 0] 45)).rowIs W1.heap.size 45 10 (moreCell none (.slice none 0 0)) := by
    have := World.rowIs_alloc (W1.setCell ⟨w.heap.size + 2, 8, none⟩ (.pointer (some ⟨W1.heap.size, 0, none⟩))) #[.int .i32 0, .int .u32 0, .pointer none, .pointer none, .int .i64 0, .pointer none, .pointer none, .slice none 0 0, .bool false, .int .i32 0] 45 (moreCell none (.slice none 0 0)) (fun i hi => by
      have hi : i < 10 := hi
      match i, hi with
      | 0, _ => rfl
      | 1, _ => rfl
      | 2, _ => rfl
      | 3, _ => rfl
      | 4, _ => rfl
      | 5, _ => rfl
      | 6, _ => rfl
      | 7, _ => rfl
      | 8, _ => rfl
      | 9, _ => rfl)
    rwa [sz] at this
  have o1 : Below w.heap.size w W1 := (((Below.refl _ w).alloc (Nat.le_refl _) _).alloc (by simp) _).trans (hb.mono (by omega))
  refine ⟨(((o1.setCell (p := ⟨w.heap.size + 2, 8, none⟩) (by simp) _).alloc (by rw [sz]; omega) _).alloc (by simp; omega) _).alloc (by simp; omega) _, (((r0.setOther (by simp) _).alloc _).alloc _).alloc _, ((r1.alloc _).alloc _).alloc _, (r2.alloc _).alloc _, (fun b e => by cases e), (fun x hx => by cases hx), ?_, ?_, World.ownsRow_nil _ _ _ _, .inl rfl, by omega⟩
  · refine World.ownsRow.alloc ?_ _
    have := World.ownsRow_lit (base := w.heap.size) (e := 24) (size := 1) ((W1.setCell ⟨w.heap.size + 2, 8, none⟩ (.pointer (some ⟨W1.heap.size, 0, none⟩))).alloc (.cells #[.int .i32 0, .int .u32 0, .pointer none, .pointer none, .int .i64 0, .pointer none, .pointer none, .slice none 0 0, .bool false, .int .i32 0] 45)) #[.pointer (some ⟨w.heap.size + 2, 0, none⟩)] 1 (by simp; omega) (by unfold maxLen; omega) rfl
    simpa [hdA, hds, ptr] using this
  · have := World.ownsRow_lit (base := w.heap.size) (e := 4) (size := 1) (((W1.setCell ⟨w.heap.size + 2, 8, none⟩ (.pointer (some ⟨W1.heap.size, 0, none⟩))).alloc (.cells #[.int .i32 0, .int .u32 0, .pointer none, .pointer none, .int .i64 0, .pointer none, .pointer none, .slice none 0 0, .bool false, .int .i32 0] 45)).alloc (.cells #[.pointer (some ⟨w.heap.size + 2, 0, none⟩)] 24)) #[.bool t.isSome] 1 (by simp; omega) (by unfold maxLen; omega) rfl
    simpa [hdF, hds] using this
end Go.Proofs.Ybulkcmsy
