/- (*lockHead).idle (function 13) at an entry whose parent has a parent (a row, a key, an attribute), with no waiters and no holders' list: idle just when the lock in place is free. -/
import Derived.Test.YbulkcmsyRows
import Derived.WalkKit
import Derived.WalkSpells
import Derived.WalkLawsBesides
namespace Go.Proofs.Ybulkcmsy
open Go.RowKit

/-- AN ENTRY BELOW A TABLE: x: its block; t: the lock in place's transaction; mo: its 'more', if any. -/
structure Head (w : World) (x : Nat) (t : Option Addr) (mo : Option Nat) : Prop where
  txn : w.cell? ⟨x, 0, none⟩ = some (.pointer t)
  par : ∃ p q : Nat, w.cell? ⟨x, 7, none⟩ = some (.pointer (some ⟨p, 0, none⟩)) ∧ w.cell? ⟨p, 7, none⟩ = some (.pointer (some ⟨q, 0, none⟩))
  more : w.cell? ⟨x, 8, none⟩ = some (.pointer (mo.map fun b => ⟨b, 0, none⟩))
  bare : ∀ b, mo = some b → w.cell? ⟨b, 2, none⟩ = some (.pointer none) ∧ w.cell? ⟨b, 3, none⟩ = some (.pointer none)

set_option maxHeartbeats 800000 in
theorem idle13_nil_free (x p q : Nat) (w : World) (h0 : w.cell? ⟨x, 0, none⟩ = some (.pointer none)) (h7 : w.cell? ⟨x, 7, none⟩ = some (.pointer (some ⟨p, 0, none⟩))) (hp : w.cell? ⟨p, 7, none⟩ = some (.pointer (some ⟨q, 0, none⟩)))
    (h8 : w.cell? ⟨x, 8, none⟩ = some (.pointer none)) :
    Calls Yba.prog 13 #[.pointer (some ⟨x, 0, none⟩)] w fun e w' => e = .returned (.bool true) ∧ w' = w := by
  go_enter Yba.func13, Yba.ntmps13
  go_wp2
  go_ret
  exact ⟨rfl, rfl⟩

set_option maxHeartbeats 800000 in
theorem idle13_more_free (x p q b : Nat) (w : World) (h0 : w.cell? ⟨x, 0, none⟩ = some (.pointer none)) (h7 : w.cell? ⟨x, 7, none⟩ = some (.pointer (some ⟨p, 0, none⟩))) (hp : w.cell? ⟨p, 7, none⟩ = some (.pointer (some ⟨q, 0, none⟩)))
    (h8 : w.cell? ⟨x, 8, none⟩ = some (.pointer (some ⟨b, 0, none⟩))) (hb2 : w.cell? ⟨b, 2, none⟩ = some (.pointer none)) (hb3 : w.cell? ⟨b, 3, none⟩ = some (.pointer none)) :
    Calls Yba.prog 13 #[.pointer (some ⟨x, 0, none⟩)] w fun e w' => e = .returned (.bool true) ∧ w' = w := by
  go_enter Yba.func13, Yba.ntmps13
  go_wp2
  go_ret
  exact ⟨rfl, rfl⟩

set_option maxHeartbeats 800000 in
theorem idle13_nil_busy (x p q : Nat) (t : Addr) (w : World) (h0 : w.cell? ⟨x, 0, none⟩ = some (.pointer (some t))) (h7 : w.cell? ⟨x, 7, none⟩ = some (.pointer (some ⟨p, 0, none⟩))) (hp : w.cell? ⟨p, 7, none⟩ = some (.pointer (some ⟨q, 0, none⟩)))
    (h8 : w.cell? ⟨x, 8, none⟩ = some (.pointer none)) :
    Calls Yba.prog 13 #[.pointer (some ⟨x, 0, none⟩)] w fun e w' => e = .returned (.bool false) ∧ w' = w := by
  go_enter Yba.func13, Yba.ntmps13
  go_wp2
  go_ret
  exact ⟨rfl, rfl⟩

set_option maxHeartbeats 800000 in
theorem idle13_more_busy (x p q b : Nat) (t : Addr) (w : World) (h0 : w.cell? ⟨x, 0, none⟩ = some (.pointer (some t))) (h7 : w.cell? ⟨x, 7, none⟩ = some (.pointer (some ⟨p, 0, none⟩))) (hp : w.cell? ⟨p, 7, none⟩ = some (.pointer (some ⟨q, 0, none⟩)))
    (h8 : w.cell? ⟨x, 8, none⟩ = some (.pointer (some ⟨b, 0, none⟩))) (hb2 : w.cell? ⟨b, 2, none⟩ = some (.pointer none)) (hb3 : w.cell? ⟨b, 3, none⟩ = some (.pointer none)) :
    Calls Yba.prog 13 #[.pointer (some ⟨x, 0, none⟩)] w fun e w' => e = .returned (.bool false) ∧ w' = w := by
  go_enter Yba.func13, Yba.ntmps13
  go_wp2
  go_ret
  exact ⟨rfl, rfl⟩

theorem idle13 {x : Nat} {t : Option Addr} {mo : Option Nat} {w : World} (h : Head w x t mo) :
    Calls Yba.prog 13 #[.pointer (some ⟨x, 0, none⟩)] w fun e w' => e = .returned (.bool t.isNone) ∧ w' = w := by
  obtain ⟨h0, ⟨p, q, h7, hp⟩, h8, hb⟩ := h
  cases t with
  | none =>
    cases mo with
    | none => exact idle13_nil_free x p q w h0 h7 hp h8
    | some b => exact idle13_more_free x p q b w h0 h7 hp h8 (hb b rfl).1 (hb b rfl).2
  | some t =>
    cases mo with
    | none => exact idle13_nil_busy x p q t w h0 h7 hp h8
    | some b => exact idle13_more_busy x p q b t w h0 h7 hp h8 (hb b rfl).1 (hb b rfl).2

end Go.Proofs.Ybulkcmsy
