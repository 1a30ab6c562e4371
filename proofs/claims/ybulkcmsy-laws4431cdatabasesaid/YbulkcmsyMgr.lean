/- 'm := &Manager{db: x}' (2,418 cells, never laid open) and busyHeads (function 6). -/
import Derived.Test.YbulkcmsyHolders
namespace Go.Proofs.Ybulkcmsy
open Go.RowKit

/-- The cells of 'Manager{db: x}': all that is asked of them is where the entry lies. -/
theorem mgr_made (a : Option Addr) : ∃ cs : Array Value, cs[2388]? = some (.pointer a) ∧ ∀ w, (Instr.build 78 #[(6, .pointer a)]).run Yba.prog w = .ok (.agg cs) w := by
  refine ⟨((match Yba.prog.info? 78 with | some i => (match i.zero with | some z => z.cells | Option.none => #[]) | Option.none => #[]) : Array Value).setIfInBounds 2388 (.pointer a), ?_, fun w => by kernel_rfl⟩
  have hs : ((match Yba.prog.info? 78 with | some i => (match i.zero with | some z => z.cells | Option.none => #[]) | Option.none => #[]) : Array Value).size = 2418 := by kernel_rfl
  rw [Array.getElem?_setIfInBounds]
  simp [hs]

/-- A struct literal of one written field, its cells under a name. -/
theorem wpList_build_one {P : Program} {w : World} {ops : Array Oper} {rest : List Oper} {o : Oper} {a : Act} {Q : Exit → Act → World → Prop} (hgd : o.guard = none) (t : TypeId) (i : Nat) (x : Operand) (ho : o.op = Op.build t #[(i, x)])
    (v : Value) (hx : a.eval x = v) (cs : Array Value) (hrun : ∀ w, (Instr.build t #[(i, v)]).run P w = .ok (.agg cs) w)
    (h : wpList P ops Q rest (a.put o.dst (.agg cs)) w) : wpList P ops Q (o :: rest) a w := by
  refine wpList_plain hgd fun K hK => ?_
  have hr := hrun w
  unfold Oper.wp
  simp [execOp, ho, hx, hr, Result.andThen]
  exact hK _ _ h

theorem busy6 (M : Nat) (w : World) :
    Calls Yba.prog 6 #[.pointer (some ⟨M, 0, none⟩)] w fun e w' => e = .returned (.func (.func 8) #[] #[.pointer (some ⟨w.heap.size, 0, none⟩)]) ∧ w' = w.alloc (.cells #[.pointer (some ⟨M, 0, none⟩)] 46) := by
  have hm := hmf
  go_enter Yba.func6, Yba.ntmps6
  go_wp2
  go_ret
  exact ⟨rfl, rfl⟩
end Go.Proofs.Ybulkcmsy
