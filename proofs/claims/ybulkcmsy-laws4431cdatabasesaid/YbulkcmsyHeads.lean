/- (*lockHead).heads (function 9) at a row: the row, its key, its attributes. -/
import Derived.Test.YbulkcmsyTen
namespace Go.Proofs.Ybulkcmsy
open Go.RowKit Go.Shelf
attribute [local go_sem] Oper.semAt_some

/-- The boxes that the iterator leans on. -/
structure Boxes (W : World) (M l mb yb hb rb : Nat) : Prop where
  m : W.heap[mb]? = some (.cells #[.pointer (some ⟨M, 0, none⟩)] 46 (0, 0))
  y : W.heap[yb]? = some (.cells #[.func (.yield l) #[] #[]] 106 (0, 0))
  h : W.heap[hb]? = some (.cells #[.func (.func 10) #[] #[.pointer (some ⟨mb, 0, none⟩), .pointer (some ⟨yb, 0, none⟩)]] 106 (0, 0))
  r : W.heap[rb]? = some (.cells #[.bool false] 4 (0, 0))

theorem Boxes.kept {G : Nat} {W W' : World} {M l mb yb hb rb : Nat} (h : Boxes W M l mb yb hb rb) (k : Kept G W W') (h1 : G < mb) (h2 : G < yb) (h3 : G < hb) (h4 : G < rb) : Boxes W' M l mb yb hb rb :=
  ⟨k.same _ _ _ _ h1 (by decide) h.m, k.same _ _ _ _ h2 (by decide) h.y, k.same _ _ _ _ h3 (by decide) h.h, k.same _ _ _ _ h4 (by decide) h.r⟩

/-- A ROW AS IT LIES: its key kb, its attributes' entries as k: 'at k', with their transactions. -/
structure RowAt (w : World) (row mo : Nat) (t : Option Addr) (kb : Option Nat) (kt : Option Addr) (a : Option Addr) (n c : Nat) (at_ : Nat → Nat) (tt : Nat → Option Addr) : Prop where
  head : Head w row t (some mo)
  branch : w.cell? ⟨mo, 5, none⟩ = some (.pointer none)
  key : w.cell? ⟨mo, 6, none⟩ = some (.pointer (kb.map fun b => ⟨b, 0, none⟩))
  keyHead : ∀ b, kb = some b → Head w b kt none
  attrs : w.cell? ⟨mo, 7, none⟩ = some (.slice a n c)
  elems : ∀ k, k < n → ∃ b off, a = some ⟨b, off, none⟩ ∧ w.cell? ⟨b, off + k, none⟩ = some (.pointer (some ⟨at_ k, 0, none⟩))
  heads : ∀ k, k < n → Head w (at_ k) (tt k) none

/-- The busy entries, in the order in which they come. -/
def busyAttrs (at_ : Nat → Nat) (tt : Nat → Option Addr) (n : Nat) : List Nat := (List.range n).flatMap fun k => came (at_ k) (tt k)
def busyKey (kb : Option Nat) (kt : Option Addr) : List Nat := match kb with | some b => came b kt | Option.none => []
def busyRow (row : Nat) (t : Option Addr) (kb : Option Nat) (kt : Option Addr) (at_ : Nat → Nat) (tt : Nat → Option Addr) (n : Nat) : List Nat := came row t ++ busyKey kb kt ++ busyAttrs at_ tt n

theorem busyAttrs_succ (at_ : Nat → Nat) (tt : Nat → Option Addr) (n : Nat) : busyAttrs at_ tt (n + 1) = busyAttrs at_ tt n ++ came (at_ n) (tt n) := by
  simp [busyAttrs, List.range_succ, List.flatMap_append]

/-- The result's cell behind its store. -/
theorem res_cell {W : World} {M l mb yb hb rb : Nat} (h : Boxes W M l mb yb hb rb) (v : Value) : (W.setCell ⟨rb, 0, none⟩ v).cell? ⟨rb, 0, none⟩ = some v :=
  World.cell?_setCell_same' _ _ _ (by rw [cell_of_cells h.r]; rfl)

theorem came_prefix (q r : List Nat) (x : Nat) (t : Option Addr) (h : came x t = [x]) : q ++ [x] <+: q ++ came x t ++ r := by rw [h]; exact ⟨r, rfl⟩

theorem busyAttrs_prefix (at_ : Nat → Nat) (tt : Nat → Option Addr) {k n : Nat} (h : k ≤ n) : busyAttrs at_ tt k <+: busyAttrs at_ tt n := by
  obtain ⟨d, rfl⟩ := Nat.exists_eq_add_of_le h
  induction d with
  | zero => exact List.prefix_refl _
  | succ d ih => rw [show k + (d + 1) = k + d + 1 from rfl, busyAttrs_succ]; exact (ih (by omega)).trans (List.prefix_append _ _)

set_option maxHeartbeats 1600000 in
theorem heads_row_none {w0 : World} {l : Nat} {J Jx : List Nat → World → Prop} (hB : Body w0 l J Jx) (row mo M mb yb : Nat) (t : Option Addr) (kt : Option Addr) (a : Option Addr) (n c : Nat) (at_ : Nat → Nat) (tt : Nat → Option Addr)
    (W : World) (hJ : J [] W) (hR : RowAt w0 row mo t none kt a n c at_ tt) (hn : n ≤ 1024) (hmb : w0.heap.size < mb) (hyb : w0.heap.size < yb)
    (hm : W.heap[mb]? = some (.cells #[.pointer (some ⟨M, 0, none⟩)] 46 (0, 0))) (hy : W.heap[yb]? = some (.cells #[.func (.yield l) #[] #[]] 106 (0, 0))) :
    CallsIn Fence.wide 0 Yba.prog 9 #[.pointer (some ⟨row, 0, none⟩), .func (.func 10) #[] #[.pointer (some ⟨mb, 0, none⟩), .pointer (some ⟨yb, 0, none⟩)]] W fun e W' =>
      (∃ v, e = .returned v) ∧ (J (busyRow row t none kt at_ tt n) W' ∨ ∃ q x, (q ++ [x]) <+: busyRow row t none kt at_ tt n ∧ Jx (q ++ [x]) W') := by
  have wf := wide_fn
  have wd := wide_depth
  have lmb := (Array.getElem?_eq_some_iff.1 hm).1
  have lyb := (Array.getElem?_eq_some_iff.1 hy).1
  obtain ⟨W0, hW0⟩ : ∃ W0, (W.alloc (.cells #[.func (.func 10) #[] #[.pointer (some ⟨mb, 0, none⟩), .pointer (some ⟨yb, 0, none⟩)]] 106)).alloc (.cells #[.bool false] 4) = W0 := ⟨_, rfl⟩
  have hb0 : Below W.heap.size W W0 := by rw [← hW0]; exact ((Below.refl _ _).alloc (Nat.le_refl _) _).alloc (by simp) _
  have hX0 : Boxes W0 M l mb yb W.heap.size (W.heap.size + 1) := by
    refine ⟨(hb0.block _ lmb).trans hm, (hb0.block _ lyb).trans hy, ?_, ?_⟩
    · rw [← hW0, Below.heap_alloc _ _ _ (by simp)]; exact World.alloc_heap_new _ _
    · rw [← hW0]; have := World.alloc_heap_new (W.alloc (.cells #[.func (.func 10) #[] #[.pointer (some ⟨mb, 0, none⟩), .pointer (some ⟨yb, 0, none⟩)]] 106)) (.cells #[.bool false] 4); rwa [World.size_alloc] at this
  have hJ0 : J [] W0 := hB.fresh _ _ _ hJ hb0
  have hHW : w0.heap.size < W.heap.size := by omega
  obtain ⟨Hb, hHb⟩ : ∃ Hb, W.heap.size = Hb := ⟨_, rfl⟩
  rw [hHb] at hX0 hHW
  have hc0 := cell_of_cells hX0.h
  have hnot : ∀ (x : Bool) (w : World), (Op.unary .not (.bool x)).run Yba.prog w = .ok (.bool (!x)) w := fun _ _ => rfl
  clear hm hy hJ hb0 lmb lyb
  refine callsIn_of_wp Yba.func9 rfl trivial ?_
  simp only [Yba.ntmps9, List.size_toArray, List.length_cons, List.length_nil, Nat.reduceAdd, Nat.reduceSub, Array.replicate_succ, Array.replicate_zero, List.push_toArray, List.append_toArray, List.nil_append, List.cons_append]
  gi_wp2_with fail
  refine (ten hB [] row M mb yb t (some mo) W0 hJ0 hR.head hX0.m hX0.y).mono ?_
  rintro e W1 ⟨hk1, (⟨rfl, hJ1⟩ | ⟨rfl, hc1, hJ1⟩)⟩
  · have hX1 := hX0.kept hk1 hmb hyb hHW (by omega)
    clear hJ0 hX0 hc0 hk1
    clear hW0 hHb W0 W
    have hM1 := hB.mem _ _ hJ1
    have g1 : W1.cell? ⟨row, 8, none⟩ = some (.pointer (some ⟨mo, 0, none⟩)) := (hM1.cell (p := ⟨row, 8, none⟩) (World.block_lt_of_cell? _ _ hR.head.more)).trans hR.head.more
    have lmo : mo < w0.heap.size := World.block_lt_of_cell? _ _ hR.branch
    have g2 := (hM1.cell (p := ⟨mo, 5, none⟩) lmo).trans hR.branch
    have g3 := (hM1.cell (p := ⟨mo, 6, none⟩) lmo).trans hR.key
    have g4 := (hM1.cell (p := ⟨mo, 7, none⟩) lmo).trans hR.attrs
    have g5 := cell_of_cells hX1.h
    simp only [Option.map_none] at g3
    simp only [List.nil_append] at hJ1
    clear hM1
    gi_wp2
    gi_loopw [64] (fun i wr => ∃ k : Nat, k ≤ n ∧ i = .int .i64 k ∧ J (came row t ++ busyAttrs at_ tt k) wr ∧ Boxes wr M l mb yb Hb (Hb + 1)) (fun i _ => n - (intOf i).toNat)
    case atStart => exact ⟨0, Nat.zero_le _, rfl, by simpa [busyAttrs] using hJ1, hX1⟩
    case round =>
      clear hJ1 hX1
      obtain ⟨k, hk, rfl, hJk, hXk⟩ := hrel
      by_cases hlt : k < n
      · obtain ⟨b, off, ha, hcl⟩ := hR.elems k hlt
        subst ha
        have hMk := hB.mem _ _ hJk
        have hce := (hMk.cell (p := ⟨b, off + k, none⟩) (World.block_lt_of_cell? _ _ hcl)).trans hcl
        have g6 := cell_of_cells hXk.h
        clear hMk hcl
        gi_wp2_with fail
        refine (ten hB _ (at_ k) M mb yb (tt k) none wr hJk (hR.heads k hlt) hXk.m hXk.y).mono ?_
        rintro e W3 ⟨hk3, (⟨rfl, hJ3⟩ | ⟨rfl, hc3, hJ3⟩)⟩
        · have hX3 := hXk.kept hk3 hmb hyb hHW (by omega)
          clear hk3 hJk hXk hce g6
          gi_wp2
          go_roundw
          case rel => exact ⟨k + 1, by omega, by go_num, by rw [busyAttrs_succ, ← List.append_assoc]; exact hJ3, hX3⟩
          case measure => simp [intOf]; omega
        · have hX3 := hXk.kept hk3 hmb hyb hHW (by omega)
          clear hk3 hJk hXk hce g6
          have hrc := cell_of_cells hX3.r
          have hrf := frozen_of_cells hX3.r
          have hx' := hB.cellX _ _ _ _ _ (.bool false) hJ3 (show w0.heap.size < Hb + 1 by omega) hX3.r
          have hcell := res_cell hX3 (.bool false)
          have hpf : (came row t ++ busyAttrs at_ tt k) ++ [at_ k] <+: busyRow row t none kt at_ tt n := by
            obtain ⟨r, hr⟩ := busyAttrs_prefix at_ tt (show k + 1 ≤ n by omega)
            rw [busyRow, ← hr, busyAttrs_succ, hc3]
            exact ⟨r, by simp [busyKey]⟩
          clear hX3 hJ3
          gi_wp2
          exact bodyPost_ret (v := .bool false) (by simp [results, Yba.results9, go_sem, hcell]) rfl ⟨⟨_, rfl⟩, .inr ⟨_, _, hpf, hx'⟩⟩
      · obtain rfl : k = n := by omega
        have hrc := cell_of_cells hXk.r
        have hrf := frozen_of_cells hXk.r
        have hj' := hB.cellJ _ _ _ _ _ (.bool true) hJk (show w0.heap.size < Hb + 1 by omega) hXk.r
        have hcell := res_cell hXk (.bool true)
        have he : came row t ++ busyAttrs at_ tt k = busyRow row t none kt at_ tt k := by simp [busyRow, busyKey]
        clear hXk hJk
        gi_wp2
        exact bodyPost_ret (v := .bool true) (by simp [results, Yba.results9, go_sem, hcell]) rfl ⟨⟨_, rfl⟩, .inl (by rw [← he]; exact hj')⟩
  · have hX1 := hX0.kept hk1 hmb hyb hHW (by omega)
    clear hJ0 hX0 hc0 hk1
    clear hW0 hHb W0 W
    have hrc := cell_of_cells hX1.r
    have hrf := frozen_of_cells hX1.r
    have hx' := hB.cellX _ _ _ _ _ (.bool false) hJ1 (show w0.heap.size < Hb + 1 by omega) hX1.r
    have hcell := res_cell hX1 (.bool false)
    have hpf : [] ++ [row] <+: busyRow row t none kt at_ tt n := by rw [busyRow, hc1]; exact ⟨_, by simp; rfl⟩
    clear hX1 hJ1
    gi_wp2
    exact bodyPost_ret (v := .bool false) (by simp [results, Yba.results9, go_sem, hcell]) rfl ⟨⟨_, rfl⟩, .inr ⟨_, _, hpf, hx'⟩⟩

set_option maxHeartbeats 1600000 in
theorem heads_row_some {w0 : World} {l : Nat} {J Jx : List Nat → World → Prop} (hB : Body w0 l J Jx) (row mo M mb yb kb : Nat) (t : Option Addr) (kt : Option Addr) (a : Option Addr) (n c : Nat) (at_ : Nat → Nat) (tt : Nat → Option Addr)
    (W : World) (hJ : J [] W) (hR : RowAt w0 row mo t (some kb) kt a n c at_ tt) (hn : n ≤ 1024) (hmb : w0.heap.size < mb) (hyb : w0.heap.size < yb)
    (hm : W.heap[mb]? = some (.cells #[.pointer (some ⟨M, 0, none⟩)] 46 (0, 0))) (hy : W.heap[yb]? = some (.cells #[.func (.yield l) #[] #[]] 106 (0, 0))) :
    CallsIn Fence.wide 0 Yba.prog 9 #[.pointer (some ⟨row, 0, none⟩), .func (.func 10) #[] #[.pointer (some ⟨mb, 0, none⟩), .pointer (some ⟨yb, 0, none⟩)]] W fun e W' =>
      (∃ v, e = .returned v) ∧ (J (busyRow row t (some kb) kt at_ tt n) W' ∨ ∃ q x, (q ++ [x]) <+: busyRow row t (some kb) kt at_ tt n ∧ Jx (q ++ [x]) W') := by
  have wf := wide_fn
  have wd := wide_depth
  have lmb := (Array.getElem?_eq_some_iff.1 hm).1
  have lyb := (Array.getElem?_eq_some_iff.1 hy).1
  obtain ⟨W0, hW0⟩ : ∃ W0, (W.alloc (.cells #[.func (.func 10) #[] #[.pointer (some ⟨mb, 0, none⟩), .pointer (some ⟨yb, 0, none⟩)]] 106)).alloc (.cells #[.bool false] 4) = W0 := ⟨_, rfl⟩
  have hb0 : Below W.heap.size W W0 := by rw [← hW0]; exact ((Below.refl _ _).alloc (Nat.le_refl _) _).alloc (by simp) _
  have hX0 : Boxes W0 M l mb yb W.heap.size (W.heap.size + 1) := by
    refine ⟨(hb0.block _ lmb).trans hm, (hb0.block _ lyb).trans hy, ?_, ?_⟩
    · rw [← hW0, Below.heap_alloc _ _ _ (by simp)]; exact World.alloc_heap_new _ _
    · rw [← hW0]; have := World.alloc_heap_new (W.alloc (.cells #[.func (.func 10) #[] #[.pointer (some ⟨mb, 0, none⟩), .pointer (some ⟨yb, 0, none⟩)]] 106)) (.cells #[.bool false] 4); rwa [World.size_alloc] at this
  have hJ0 : J [] W0 := hB.fresh _ _ _ hJ hb0
  have hHW : w0.heap.size < W.heap.size := by omega
  obtain ⟨Hb, hHb⟩ : ∃ Hb, W.heap.size = Hb := ⟨_, rfl⟩
  rw [hHb] at hX0 hHW
  have hc0 := cell_of_cells hX0.h
  have hnot : ∀ (x : Bool) (w : World), (Op.unary .not (.bool x)).run Yba.prog w = .ok (.bool (!x)) w := fun _ _ => rfl
  clear hm hy hJ hb0 lmb lyb
  refine callsIn_of_wp Yba.func9 rfl trivial ?_
  simp only [Yba.ntmps9, List.size_toArray, List.length_cons, List.length_nil, Nat.reduceAdd, Nat.reduceSub, Array.replicate_succ, Array.replicate_zero, List.push_toArray, List.append_toArray, List.nil_append, List.cons_append]
  gi_wp2_with fail
  refine (ten hB [] row M mb yb t (some mo) W0 hJ0 hR.head hX0.m hX0.y).mono ?_
  rintro e W1 ⟨hk1, (⟨rfl, hJ1⟩ | ⟨rfl, hc1, hJ1⟩)⟩
  · have hX1 := hX0.kept hk1 hmb hyb hHW (by omega)
    clear hJ0 hX0 hc0 hk1
    clear hW0 hHb W0 W
    have hM1 := hB.mem _ _ hJ1
    have g1 : W1.cell? ⟨row, 8, none⟩ = some (.pointer (some ⟨mo, 0, none⟩)) := (hM1.cell (p := ⟨row, 8, none⟩) (World.block_lt_of_cell? _ _ hR.head.more)).trans hR.head.more
    have lmo : mo < w0.heap.size := World.block_lt_of_cell? _ _ hR.branch
    have g2 := (hM1.cell (p := ⟨mo, 5, none⟩) lmo).trans hR.branch
    have g3 := (hM1.cell (p := ⟨mo, 6, none⟩) lmo).trans hR.key
    have g4 := (hM1.cell (p := ⟨mo, 7, none⟩) lmo).trans hR.attrs
    have g5 := cell_of_cells hX1.h
    simp only [Option.map_some] at g3
    simp only [List.nil_append] at hJ1
    clear hM1
    have hKh := hR.keyHead kb rfl
    gi_wp2_with fail
    refine (ten hB _ kb M mb yb kt none W1 hJ1 hKh hX1.m hX1.y).mono ?_
    rintro e W2 ⟨hk2, (⟨rfl, hJ2⟩ | ⟨rfl, hc2, hJ2⟩)⟩
    · have hX2 := hX1.kept hk2 hmb hyb hHW (by omega)
      have hM2 := hB.mem _ _ hJ2
      clear hJ1 hX1 hk2 g1 g2 g3 g4 g5 W1
      have g1 : W2.cell? ⟨row, 8, none⟩ = some (.pointer (some ⟨mo, 0, none⟩)) := (hM2.cell (p := ⟨row, 8, none⟩) (World.block_lt_of_cell? _ _ hR.head.more)).trans hR.head.more
      have g4 := (hM2.cell (p := ⟨mo, 7, none⟩) lmo).trans hR.attrs
      clear hM2
      gi_wp2
      gi_loopw [64] (fun i wr => ∃ k : Nat, k ≤ n ∧ i = .int .i64 k ∧ J ((came row t ++ came kb kt) ++ busyAttrs at_ tt k) wr ∧ Boxes wr M l mb yb Hb (Hb + 1)) (fun i _ => n - (intOf i).toNat)
      case atStart => exact ⟨0, Nat.zero_le _, rfl, by simpa [busyAttrs] using hJ2, hX2⟩
      case round =>
        clear hJ2 hX2
        obtain ⟨k, hk, rfl, hJk, hXk⟩ := hrel
        by_cases hlt : k < n
        · obtain ⟨b, off, ha, hcl⟩ := hR.elems k hlt
          subst ha
          have hMk := hB.mem _ _ hJk
          have hce := (hMk.cell (p := ⟨b, off + k, none⟩) (World.block_lt_of_cell? _ _ hcl)).trans hcl
          have g6 := cell_of_cells hXk.h
          clear hMk hcl
          gi_wp2_with fail
          refine (ten hB _ (at_ k) M mb yb (tt k) none wr hJk (hR.heads k hlt) hXk.m hXk.y).mono ?_
          rintro e W3 ⟨hk3, (⟨rfl, hJ3⟩ | ⟨rfl, hc3, hJ3⟩)⟩
          · have hX3 := hXk.kept hk3 hmb hyb hHW (by omega)
            clear hk3 hJk hXk hce g6
            gi_wp2
            go_roundw
            case rel => exact ⟨k + 1, by omega, by go_num, by rw [busyAttrs_succ, ← List.append_assoc]; exact hJ3, hX3⟩
            case measure => simp [intOf]; omega
          · have hX3 := hXk.kept hk3 hmb hyb hHW (by omega)
            clear hk3 hJk hXk hce g6
            have hrc := cell_of_cells hX3.r
            have hrf := frozen_of_cells hX3.r
            have hx' := hB.cellX _ _ _ _ _ (.bool false) hJ3 (show w0.heap.size < Hb + 1 by omega) hX3.r
            have hcell := res_cell hX3 (.bool false)
            have hpf : ((came row t ++ came kb kt) ++ busyAttrs at_ tt k) ++ [at_ k] <+: busyRow row t (some kb) kt at_ tt n := by
              obtain ⟨r, hr⟩ := busyAttrs_prefix at_ tt (show k + 1 ≤ n by omega)
              rw [busyRow, ← hr, busyAttrs_succ, hc3]
              exact ⟨r, by simp [busyKey]⟩
            clear hX3 hJ3
            gi_wp2
            exact bodyPost_ret (v := .bool false) (by simp [results, Yba.results9, go_sem, hcell]) rfl ⟨⟨_, rfl⟩, .inr ⟨_, _, hpf, hx'⟩⟩
        · obtain rfl : k = n := by omega
          have hrc := cell_of_cells hXk.r
          have hrf := frozen_of_cells hXk.r
          have hj' := hB.cellJ _ _ _ _ _ (.bool true) hJk (show w0.heap.size < Hb + 1 by omega) hXk.r
          have hcell := res_cell hXk (.bool true)
          have he : (came row t ++ came kb kt) ++ busyAttrs at_ tt k = busyRow row t (some kb) kt at_ tt k := by simp [busyRow, busyKey]
          clear hXk hJk
          gi_wp2
          exact bodyPost_ret (v := .bool true) (by simp [results, Yba.results9, go_sem, hcell]) rfl ⟨⟨_, rfl⟩, .inl (by rw [← he]; exact hj')⟩
    · have hX2 := hX1.kept hk2 hmb hyb hHW (by omega)
      clear hJ1 hX1 hk2 g1 g2 g3 g4 g5
      have hrc := cell_of_cells hX2.r
      have hrf := frozen_of_cells hX2.r
      have hx' := hB.cellX _ _ _ _ _ (.bool false) hJ2 (show w0.heap.size < Hb + 1 by omega) hX2.r
      have hcell := res_cell hX2 (.bool false)
      have hpf : came row t ++ [kb] <+: busyRow row t (some kb) kt at_ tt n := by rw [busyRow, busyKey, hc2]; exact ⟨_, rfl⟩
      clear hX2 hJ2
      gi_wp2
      exact bodyPost_ret (v := .bool false) (by simp [results, Yba.results9, go_sem, hcell]) rfl ⟨⟨_, rfl⟩, .inr ⟨_, _, hpf, hx'⟩⟩
  · have hX1 := hX0.kept hk1 hmb hyb hHW (by omega)
    clear hJ0 hX0 hc0 hk1
    clear hW0 hHb W0 W
    have hrc := cell_of_cells hX1.r
    have hrf := frozen_of_cells hX1.r
    have hx' := hB.cellX _ _ _ _ _ (.bool false) hJ1 (show w0.heap.size < Hb + 1 by omega) hX1.r
    have hcell := res_cell hX1 (.bool false)
    have hpf : [] ++ [row] <+: busyRow row t (some kb) kt at_ tt n := by rw [busyRow, hc1]; exact ⟨_, by simp; rfl⟩
    clear hX1 hJ1
    gi_wp2
    exact bodyPost_ret (v := .bool false) (by simp [results, Yba.results9, go_sem, hcell]) rfl ⟨⟨_, rfl⟩, .inr ⟨_, _, hpf, hx'⟩⟩

theorem heads_row {w0 : World} {l : Nat} {J Jx : List Nat → World → Prop} (hB : Body w0 l J Jx) (row mo M mb yb : Nat) (t : Option Addr) (kb : Option Nat) (kt : Option Addr) (a : Option Addr) (n c : Nat) (at_ : Nat → Nat) (tt : Nat → Option Addr)
    (W : World) (hJ : J [] W) (hR : RowAt w0 row mo t kb kt a n c at_ tt) (hn : n ≤ 1024) (hmb : w0.heap.size < mb) (hyb : w0.heap.size < yb)
    (hm : W.heap[mb]? = some (.cells #[.pointer (some ⟨M, 0, none⟩)] 46 (0, 0))) (hy : W.heap[yb]? = some (.cells #[.func (.yield l) #[] #[]] 106 (0, 0))) :
    CallsIn Fence.wide 0 Yba.prog 9 #[.pointer (some ⟨row, 0, none⟩), .func (.func 10) #[] #[.pointer (some ⟨mb, 0, none⟩), .pointer (some ⟨yb, 0, none⟩)]] W fun e W' =>
      (∃ v, e = .returned v) ∧ (J (busyRow row t kb kt at_ tt n) W' ∨ ∃ q x, (q ++ [x]) <+: busyRow row t kb kt at_ tt n ∧ Jx (q ++ [x]) W') := by
  cases kb with
  | none => exact heads_row_none hB row mo M mb yb t kt a n c at_ tt W hJ hR hn hmb hyb hm hy
  | some kb => exact heads_row_some hB row mo M mb yb kb t kt a n c at_ tt W hJ hR hn hmb hyb hm hy

set_option maxHeartbeats 1600000 in
/-- busyHeads$1 (function 8), whatever 'heads' does at the entry db. -/
theorem it8 {w0 : World} {l : Nat} {J Jx : List Nat → World → Prop} (S : List Nat) (hB : Body w0 l J Jx) (db M mb : Nat) (W : World) (hJ : J [] W) (hmb : w0.heap.size < mb)
    (hm : W.heap[mb]? = some (.cells #[.pointer (some ⟨M, 0, none⟩)] 46 (0, 0))) (hdb : w0.cell? ⟨M, 2388, none⟩ = some (.pointer (some ⟨db, 0, none⟩)))
    (hheads : ∀ (yb : Nat) (W1 : World), J [] W1 → w0.heap.size < yb → W1.heap[mb]? = some (.cells #[.pointer (some ⟨M, 0, none⟩)] 46 (0, 0)) → W1.heap[yb]? = some (.cells #[.func (.yield l) #[] #[]] 106 (0, 0)) →
      CallsIn Fence.wide 0 Yba.prog 9 #[.pointer (some ⟨db, 0, none⟩), .func (.func 10) #[] #[.pointer (some ⟨mb, 0, none⟩), .pointer (some ⟨yb, 0, none⟩)]] W1 fun e W' =>
        (∃ v, e = .returned v) ∧ (J S W' ∨ ∃ q x, (q ++ [x]) <+: S ∧ Jx (q ++ [x]) W')) :
    CallsIn Fence.wide 0 Yba.prog 8 #[.func (.yield l) #[] #[], .pointer (some ⟨mb, 0, none⟩)] W fun e W' => (∃ v, e = .returned v) ∧ (J S W' ∨ ∃ q x, (q ++ [x]) <+: S ∧ Jx (q ++ [x]) W') := by
  have wf := wide_fn
  have wd := wide_depth
  have hmk := hmf
  have hM := hB.mem _ _ hJ
  have g1 := cell_of_cells hm
  have lmb : mb < W.heap.size := World.block_lt_of_cell? _ _ g1
  have lM : M < w0.heap.size := World.block_lt_of_cell? _ _ hdb
  have g2 := (hM.cell (p := ⟨M, 2388, none⟩) lM).trans hdb
  have hsz := hM.size
  have hb0 : Below W.heap.size W (W.alloc (.cells #[.func (.yield l) #[] #[]] 106)) := (Below.refl _ _).alloc (Nat.le_refl _) _
  have lM2 : M < W.heap.size := by omega
  have HC := hheads W.heap.size _ (hB.fresh _ _ _ hJ hb0) (by omega) ((hb0.block _ lmb).trans hm) (World.alloc_heap_new _ _)
  clear hheads hm hM hdb hJ hb0
  refine callsIn_of_wp Yba.func8 rfl trivial ?_
  simp only [Yba.ntmps8, List.size_toArray, List.length_cons, List.length_nil, Nat.reduceAdd, Nat.reduceSub, Array.replicate_succ, Array.replicate_zero, List.push_toArray, List.append_toArray, List.nil_append, List.cons_append]
  gi_wp2_with fail
  refine HC.mono ?_
  rintro e W2 ⟨⟨v, rfl⟩, h2⟩
  gi_wp2
  go_end0
  exact ⟨⟨_, rfl⟩, h2⟩
end Go.Proofs.Ybulkcmsy
