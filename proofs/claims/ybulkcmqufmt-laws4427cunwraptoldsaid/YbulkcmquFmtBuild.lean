/- zzs4427cbuild (function 8): nil for nil; else a new list whose i-th element is a new *zzs4427cerr with the i-th text, the number i and the log. -/
import Derived.Test.YbulkcmquFmtRows
import Derived.WalkKit
import Derived.WalkSpells
import Derived.WalkLawsBesides
import Derived.Deep.OwnRows
namespace Go.Proofs.YbulkcmquFmt
open Go.RowKit

theorem Ybaf.info40 : (Ybaf.prog.info? 40).map (fun i => (i.zero, i.size, i.bytes)) = some (some .nilIface, 1, 16) := by kernel_rfl

/-- The three cells of the k-th fault. -/
def cellsOf (S : Nat → ByteArray) (L k : Nat) : Nat → Value
  | 0 => .string (S k)
  | 1 => .int .i64 k
  | _ => .pointer (some ⟨L, 0, none⟩)

/-- The k-th element of the list that begins at block B. -/
def faultAt (B k : Nat) : Value := .iface 49 (.pointer (some ⟨B + 1 + k, 0, none⟩))

/-- THE LIST AT BLOCK B: n elements, the k-th a pointer to block B + 1 + k, which holds the k-th fault. -/
def Faults (w : World) (B L n : Nat) (S : Nat → ByteArray) : Prop :=
  w.rowIs B 40 n (faultAt B) ∧ ∀ j, j < n → w.rowIs (B + 1 + j) 51 3 (cellsOf S L j)

/-- After k rounds. -/
def Rel (w wr : World) (B L n : Nat) (S : Nat → ByteArray) (k : Nat) : Prop :=
  wr.rowIs B 40 n (fun j => if j < k then faultAt B j else .nilIface) ∧ (∀ j, j < k → wr.rowIs (B + 1 + j) 51 3 (cellsOf S L j)) ∧ wr.heap.size = B + 1 + k ∧ Below B w wr

theorem rel_start (w : World) (L n : Nat) (S : Nat → ByteArray) : Rel w (w.alloc (.cells (madeCells #[.nilIface] n) 40)) w.heap.size L n S 0 :=
  ⟨(World.rowIs_made w .nilIface n 40).congr (fun _ _ => by simp), fun j h => by omega, by simp, (Below.refl _ _).alloc (Nat.le_refl _) _⟩

theorem size_setCell (w : World) (a : Addr) (v : Value) : (w.setCell a v).heap.size = w.heap.size := by simp [World.setCell]

theorem rel_step {w wr : World} {B L n k : Nat} {S : Nat → ByteArray} (h : Rel w wr B L n S k) :
    Rel w ((wr.setCell ⟨B, k, none⟩ (.iface 49 (.pointer (some ⟨wr.heap.size, 0, none⟩)))).alloc (.cells #[.string (S k), .int .i64 k, .pointer (some ⟨L, 0, none⟩)] 51)) B L n S (k + 1) := by
  obtain ⟨h1, h2, h3, h4⟩ := h
  refine ⟨((h1.set k _).alloc _).congr ?_, ?_, ?_, ?_⟩
  · intro i _
    by_cases e : i = k
    · subst e; simp [faultAt, h3]
    · by_cases l : i < k
      · simp [e, l, show i < k + 1 by omega]
      · simp [e, l, show ¬ i < k + 1 by omega]
  · intro j hj
    by_cases e : j = k
    · subst e
      have hr := World.rowIs_alloc (wr.setCell ⟨B, j, none⟩ (.iface 49 (.pointer (some ⟨wr.heap.size, 0, none⟩)))) #[.string (S j), .int .i64 j, .pointer (some ⟨L, 0, none⟩)] 51 (cellsOf S L j) (fun i hi => by
        have hi3 : i < 3 := by simpa using hi
        match i, hi3 with
        | 0, _ => rfl
        | 1, _ => rfl
        | 2, _ => rfl)
      rw [size_setCell, h3] at hr
      rw [h3]
      exact hr
    · exact (World.rowIs.setOther (h2 j (by omega)) (show B + 1 + j ≠ B by omega) _).alloc _
  · simp [h3]; omega
  · exact (h4.setCell (Nat.le_refl _) _).alloc (by rw [size_setCell]; omega) _

theorem build_nil (L : Nat) (w : World) :
    Calls Ybaf.prog 8 #[.slice none 0 0, .pointer (some ⟨L, 0, none⟩)] w fun e w' => e = .returned (.slice none 0 0) ∧ w' = w := by
  have q26 : ∀ (w : World) (a : Option Addr) (n c n' c' : Nat), (binOp .eql 26 (.slice a n c) (.slice none n' c')).run Ybaf.prog w = .ok (.bool a.isNone) w := fun w a n c n' c' => Lib.run_eql_slice_nil w _ _ a n c n' c' Ybaf.underlying26
  go_enter Ybaf.func8, Ybaf.ntmps8
  go_wp2
  go_ret
  exact ⟨rfl, rfl⟩

set_option maxHeartbeats 800000 in
theorem build_some (B b off n cap L : Nat) (S : Nat → ByteArray) (w : World) (hB : w.heap.size = B) (hn : n ≤ 1024) (hb : b < w.heap.size)
    (hc : ∀ j, j < n → w.cell? ⟨b, off + j, none⟩ = some (.string (S j))) :
    Calls Ybaf.prog 8 #[.slice (some ⟨b, off, none⟩) n cap, .pointer (some ⟨L, 0, none⟩)] w fun e w' => e = .returned (.slice (some ⟨B, 0, none⟩) n n) ∧ Rel w w' B L n S n := by
  subst hB
  have q26 : ∀ (w : World) (a : Option Addr) (n c n' c' : Nat), (binOp .eql 26 (.slice a n c) (.slice none n' c')).run Ybaf.prog w = .ok (.bool a.isNone) w := fun w a n c n' c' => Lib.run_eql_slice_nil w _ _ a n c n' c' Ybaf.underlying26
  have hmk := run_make_row' (P := Ybaf.prog) 31 40 .nilIface 16 Ybaf.underlying31 Ybaf.info40 rfl .i64 .i64 n (by omega) (by omega)
  have hr0 := rel_start w L n S
  go_enter Ybaf.func8, Ybaf.ntmps8
  go_wp2
  go_loopw [6] (fun i wr => ∃ k : Nat, k ≤ n ∧ i = .int .i64 k ∧ Rel w wr w.heap.size L n S k) (fun i _ => n - (intOf i).toNat)
  case atStart => exact ⟨0, Nat.zero_le _, rfl, hr0⟩
  case round =>
    clear hmk hr0
    obtain ⟨k, hk, rfl, hR⟩ := hrel
    by_cases hlt : k < n
    · have hcx : wr.cell? ⟨b, off + k, none⟩ = some (.string (S k)) := (hR.2.2.2.cell (p := ⟨b, off + k, none⟩) hb).trans (hc k hlt)
      have hce : wr.cell? ⟨w.heap.size, k, none⟩ = some .nilIface := by have := hR.1.cell hlt; simpa using this
      have hfe : wr.frozen? ⟨w.heap.size, k, none⟩ = false := hR.1.frozen k
      have hlw : w.heap.size < wr.heap.size := hR.1.lt
      have HR : Hid (Rel w _ w.heap.size L n S (k + 1)) := rel_step hR
      clear hR hc
      go_wp2
      go_roundw
      case rel => exact ⟨k + 1, by omega, by go_num, HR.out⟩
      case measure => simp [intOf]; omega
    · obtain rfl : k = n := by omega
      go_wp2
      go_ret
      exact ⟨rfl, hR⟩

set_option maxHeartbeats 800000 in
/-- A list that is there and empty. -/
theorem build_zero (B : Nat) (a : Addr) (cap L : Nat) (S : Nat → ByteArray) (w : World) (hB : w.heap.size = B) :
    Calls Ybaf.prog 8 #[.slice (some a) 0 cap, .pointer (some ⟨L, 0, none⟩)] w fun e w' => e = .returned (.slice (some ⟨B, 0, none⟩) 0 0) ∧ Rel w w' B L 0 S 0 := by
  subst hB
  have q26 : ∀ (w : World) (a : Option Addr) (n c n' c' : Nat), (binOp .eql 26 (.slice a n c) (.slice none n' c')).run Ybaf.prog w = .ok (.bool a.isNone) w := fun w a n c n' c' => Lib.run_eql_slice_nil w _ _ a n c n' c' Ybaf.underlying26
  have hmk : ∀ w : World, (Instr.makeSlice 31 (.int .i64 0) (.int .i64 0)).run Ybaf.prog w = .ok (.slice (some ⟨w.heap.size, 0, none⟩) 0 0) (w.alloc (.cells (madeCells #[.nilIface] 0) 40)) :=
    fun w => run_make_row' (P := Ybaf.prog) 31 40 .nilIface 16 Ybaf.underlying31 Ybaf.info40 rfl .i64 .i64 0 (by omega) (by omega) w
  have hr0 := rel_start w L 0 S
  go_enter Ybaf.func8, Ybaf.ntmps8
  go_wp2
  refine wp_loop_rounds 1 ?_
  rw [rounds_succ]
  go_wp2
  go_ret
  exact ⟨rfl, hr0⟩
end Go.Proofs.YbulkcmquFmt
