/- The law's closure; (*offerTree).bestWhere. -/
import Derived.Test.YbulkcmtmFold
import Derived.Test.YbulkcmtmKeep
import Derived.Test.YbulkcmtmLoop
namespace Go.Proofs.Ybulkcmtm
open Go.RowKit

def nats (l : List Nat) : List Value := ints (l.map fun n : Nat => (n : Int))

/-- The log as it lies in memory. -/
structure LogAt (W : World) (B lb : Nat) (v : Value) (log : List Nat) : Prop where
  box : W.heap[lb]? = some (.cells #[v] 36 (0, 0))
  row : W.ownsRow B 3 1 v log.length (nats log)

theorem Touch.at {S : Nat → Prop} {W W' : World} (h : Touch S W W') {b o : Nat} {v : Value} (hc : W.cell? ⟨b, o, none⟩ = some v) (hs : ¬ S b) : W'.cell? ⟨b, o, none⟩ = some v :=
  (World.cell?_of_block (a := ⟨b, o, none⟩) (h.block b (World.block_lt_of_cell? _ _ hc) hs)).trans hc

theorem LogAt.keep {W W' : World} {B lb : Nat} {v : Value} {log : List Nat} {S : Nat → Prop} (h : LogAt W B lb v log) (ht : Touch S W W') (h1 : ¬ S lb) (h2 : ∀ k, v.ownBlock = some k → ¬ S k) : LogAt W' B lb v log :=
  ⟨(ht.block lb (Array.getElem?_eq_some_iff.1 h.box).1 h1).trans h.box, own_keep h.row ht h2⟩

set_option maxHeartbeats 2000000 in
set_option maxRecDepth 100000 in
theorem call9 (W : World) (B lb kb x N : Nat) (v : Value) (log : List Nat) (ka : Option Addr) (kn kc : Nat) (ks : Nat → Bool) (h : LogAt W B lb v log) (hB : B ≤ lb) (hk : W.cell? ⟨kb, 0, none⟩ = some (.slice ka kn kc)) (hkb : kb < B) (hr : Row1 W N ka kn ks) (hN : N ≤ B) (hlen : log.length ≤ 100000000) (hx : x ≤ 100000) :
    Calls Yba.prog 9 #[.int .i64 x, .pointer (some ⟨lb, 0, none⟩), .pointer (some ⟨kb, 0, none⟩)] W fun e W' => e = .returned (.bool (keepv kn ks x)) ∧ ∃ v', LogAt W' B lb v' (log ++ [x]) ∧ Touch (fun k => k = lb ∨ v.ownBlock = some k) W W' ∧ (v'.ownBlock = v.ownBlock ∨ ∃ g, v'.ownBlock = some g ∧ W.heap.size ≤ g) := by
  obtain ⟨i3, hi3, hy1, hy2, hy3⟩ := info_parts inf3'
  obtain ⟨a, c, hv⟩ := slice_form h.row
  have hlb : lb < W.heap.size := (Array.getElem?_eq_some_iff.1 h.box).1
  have hBs : B ≤ W.heap.size := by omega
  have c0 : W.cell? ⟨lb, 0, none⟩ = some (.slice a log.length c) := by simp [World.cell?, h.box, hv]
  have f0 : W.frozen? ⟨lb, 0, none⟩ = false := by simp [World.frozen?, h.box]
  have hne : v.ownBlock ≠ some lb := own_ne h.row h.box (by decide)
  have hrow := h.row
  have HLT : Hid (∀ k, v.ownBlock = some k → B ≤ k) := fun k hk => (h.row.lt k hk).1
  rw [hv] at hrow
  have HV : Hid (v = .slice a log.length c) := hv
  have HK : Hid (W.cell? ⟨kb, 0, none⟩ = some (.slice ka kn kc)) := hk
  clear hk hv
  go_enter Yba.func9, Yba.ntmps9
  go_upto_region 2 with (at_builtin; refine wpList_append_lies _ rfl (.tmp 5) (.tmp 7) 36 rfl B 3 i3 _ 1 8 Yba.underlying36 hi3 hy1 hy2 hy3 rfl (by decide) _ _ _ rfl (hrow.alloc _) ⟨W.heap.size, 0, none⟩ 1 1 [.int .i64 x] rfl rfl (World.news_of_block (cs := #[.int .i64 x]) (t := 3) (fr := (0, 0)) (heap_alloc_new W _)) (by simp [Value.oneCell']) (by omega) (by unfold maxLen; omega) (by omega) (by simp; omega) (W.heap.size + 1) (by simp) ?_; intro g c' w1 ho1 hg1 hat1 hlt1; have f1 : w1.cell? ⟨lb, 0, none⟩ = some (.slice a log.length c) := (World.cell?_of_block (a := ⟨lb, 0, none⟩) (hg1.block lb (by simp; omega) (fun e => hne (by rw [HV.out]; exact e.symm)))).trans (by go_simp); have f2 : w1.frozen? ⟨lb, 0, none⟩ = false := (World.frozen?_of_block (a := ⟨lb, 0, none⟩) (hg1.block lb (by simp; omega) (fun e => hne (by rw [HV.out]; exact e.symm)))).trans (by go_simp))
  rw [← HV.out] at hg1 hat1
  have hT : Touch (fun k => k = lb ∨ v.ownBlock = some k) W (w1.setCell ⟨lb, 0, none⟩ (.slice (some ⟨g, 0, none⟩) (log.length + 1) c')) :=
    ((((Touch.refl _ W).trans (Touch.below ((Below.refl _ _).alloc (Nat.le_refl _) _))).grown hg1 (fun k e => .inr e)).set (p := ⟨lb, 0, none⟩) (.inl rfl) _)
  have hbx : w1.heap[lb]? = some (.cells #[v] 36 (0, 0)) := (hg1.block lb (by simp; omega) (fun e => hne e.symm)).trans ((Below.heap_alloc W _ lb hlb).trans h.box)
  have hL : LogAt (w1.setCell ⟨lb, 0, none⟩ (.slice (some ⟨g, 0, none⟩) (log.length + 1) c')) B lb (.slice (some ⟨g, 0, none⟩) (log.length + 1) c') (log ++ [x]) := by
    refine ⟨?_, ?_⟩
    · show (w1.heap.modify lb _)[lb]? = _
      rw [Array.getElem?_modify, if_pos rfl, hbx]
      simp
    · have e : nats (log ++ [x]) = nats log ++ [.int .i64 (x : Int)] := by simp [nats, ints]
      rw [e]
      simp only [List.length_append, List.length_cons, List.length_nil]
      exact own_other ho1 (own_ne ho1 hbx (by decide)) _
  have hnS : ∀ k, k < B → ¬ (k = lb ∨ v.ownBlock = some k) := by
    rintro k hk (e | e)
    · omega
    · have := HLT.out k e; omega
  have hkk := hT.at HK.out (hnS kb hkb)
  have hr1 : Row1 (w1.setCell ⟨lb, 0, none⟩ (.slice (some ⟨g, 0, none⟩) (log.length + 1) c')) N ka kn ks := by
    intro j hj
    obtain ⟨b, off, e, hlt, cc⟩ := hr j hj
    exact ⟨b, off, e, hlt, hT.at cc (hnS b (by omega))⟩
  generalize w1.setCell ⟨lb, 0, none⟩ (.slice (some ⟨g, 0, none⟩) (log.length + 1) c') = W1 at *
  clear hg1 f1 f2 hbx ho1 c0 f0 hrow
  go_wp2_with (go_at_call 10; refine (keep10 ka kn kc x N ks _ hr1 hx).mono ?_; rintro e w' ⟨rfl, rfl⟩)
  go_ret
  refine ⟨rfl, _, hL, hT, ?_⟩
  rcases hat1 with e | e
  · exact .inl e.symm
  · exact .inr ⟨g, rfl, by omega⟩
end Go.Proofs.Ybulkcmtm
