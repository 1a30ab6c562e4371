/- copy(dst, src) where an element fills several cells (the kit's laws are for one). -/
import Derived.Test.YbulkcmtmQueue
import Derived.Laws.CopyOwn
import Derived.OwnWalk
namespace Go.Proofs.Ybulkcmtm
open Go.RowKit

section
variable {P : Program}

theorem run_copy_sz (w : World) (dT sT ty elem : TypeId) (g o dLen dCap : Nat) (a : Addr) (sLen sCap sz : Nat) (cur : Array Value) (t : TypeId) (cs : List Value)
    (hu : P.underlying dT = some (.slice elem)) (hs : (P.info? elem).map (·.size) = some sz)
    (hg : w.heap[g]? = some (.cells cur t (0, 0))) (hn : cs.length = Nat.min sLen dLen * sz)
    (hsrc : ∀ j v, cs[j]? = some v → w.cell? (a.add j) = some v) (hfit : o + cs.length ≤ cur.size) (h1 : ∀ v ∈ cs, v.oneCell' = true) :
    (Builtin.copy_ #[dT, sT] ty #[.slice (some ⟨g, o, none⟩) dLen dCap, .slice (some a) sLen sCap]).run P w =
      .ok (goInt (Nat.min sLen dLen)) (w.setRow g (cur.toList.take o ++ cs ++ cur.toList.drop (o + cs.length)).toArray) := by
  have hl := run_loadCells_list (P := P) w a cs hsrc
  have hst := run_storeCells_at P g o t cs 0 cur w hg (by simpa using hfit) h1
  cases hq : P.info? elem with
  | none => simp [hq] at hs
  | some i =>
    have hi : i.size = sz := by simpa [hq] using hs
    simp [Builtin.copy_, run_underlying hu, Builtin.lenOf, Builtin.firstCells, sizeOf, typeInfo, hq, hi, ← hn, hl, hst]

/-- The row behind a copy, as 'owned by base'. -/
theorem row_copied {w : World} {g o : Nat} {cur : Array Value} {t : TypeId} {cs : List Value} (hg : w.heap[g]? = some (.cells cur t (0, 0))) :
    (w.setRow g (cur.toList.take o ++ cs ++ cur.toList.drop (o + cs.length)).toArray).heap[g]? = some (.cells (cur.toList.take o ++ cs ++ cur.toList.drop (o + cs.length)).toArray t (0, 0)) :=
  setRow_heap w g _ _ t _ hg

theorem wpList_copy_sz {w : World} {ops : Array Oper} {rest : List Oper} {o : Oper} {a : Act} {Q : Exit → Act → World → Prop} (hgd : o.guard = none) (d s : Operand) (dT sT : TypeId)
    (ho : o.op = .call { callee := .builtin .copy, args := #[d, s], argTypes := #[dT, sT] }) (elem : TypeId) (sz : Nat) (hu : P.underlying dT = some (.slice elem)) (hsz : (P.info? elem).map (·.size) = some sz)
    (g off dLen dCap : Nat) (ad : Addr) (sLen sCap : Nat) (hd : a.eval d = .slice (some ⟨g, off, none⟩) dLen dCap) (hs : a.eval s = .slice (some ad) sLen sCap)
    (cur : Array Value) (t : TypeId) (hg : w.heap[g]? = some (.cells cur t (0, 0))) (cs : List Value) (hn : cs.length = Nat.min sLen dLen * sz)
    (hsrc : ∀ j v, cs[j]? = some v → w.cell? (ad.add j) = some v) (hfit : off + cs.length ≤ cur.size) (h1 : ∀ v ∈ cs, v.oneCell' = true) (B : Nat) (w0 : World) (hb : Below B w0 w) (hBg : B ≤ g)
    (h : ∀ w', Hid (w'.heap[g]? = some (.cells (cur.toList.take off ++ cs ++ cur.toList.drop (off + cs.length)).toArray t (0, 0))) → Below B w0 w' → wpList P ops Q rest (a.put o.dst (goInt (Nat.min sLen dLen))) w') : wpList P ops Q (o :: rest) a w := by
  refine wpList_plain hgd fun K hK => ?_
  have hrun := run_copy_sz (P := P) w dT sT o.type elem g off dLen dCap ad sLen sCap sz cur t cs hu hsz hg hn hsrc hfit h1
  unfold Oper.wp
  simp [execOp, ho, resolve, invoke, builtin, hd, hs, hrun, Result.andThen]
  exact hK _ _ (h _ (show _ = _ by have := row_copied (o := off) (cs := cs) hg; simpa using this) (below_setRow hb hBg _))

theorem step_copy_sz {ops : Array Oper} {o : Oper} {a : Act} {w : World} {K : Act → World → Prop} {Q : Exit → Act → World → Prop} {E : Prop} (hgd : o.guard = none) (d s : Operand) (dT sT : TypeId)
    (ho : o.op = .call { callee := .builtin .copy, args := #[d, s], argTypes := #[dT, sT] }) (elem : TypeId) (sz : Nat) (hu : P.underlying dT = some (.slice elem)) (hsz : (P.info? elem).map (·.size) = some sz)
    (g off dLen dCap : Nat) (ad : Addr) (sLen sCap : Nat) (hd : a.eval d = .slice (some ⟨g, off, none⟩) dLen dCap) (hs : a.eval s = .slice (some ad) sLen sCap)
    (cur : Array Value) (t : TypeId) (hg : w.heap[g]? = some (.cells cur t (0, 0))) (cs : List Value) (hn : cs.length = Nat.min sLen dLen * sz)
    (hsrc : ∀ j v, cs[j]? = some v → w.cell? (ad.add j) = some v) (hfit : off + cs.length ≤ cur.size) (h1 : ∀ v ∈ cs, v.oneCell' = true) (B : Nat) (w0 : World) (hb : Below B w0 w) (hBg : B ≤ g)
    (h : ∀ w', Hid (w'.heap[g]? = some (.cells (cur.toList.take off ++ cs ++ cur.toList.drop (off + cs.length)).toArray t (0, 0))) → Below B w0 w' → K (a.put o.dst (goInt (Nat.min sLen dLen))) w') :
    if Region.wanted o (yielded ops a.tmps) = true then Oper.wp P o a w K Q else E := by
  have hw : Region.wanted o (yielded ops a.tmps) = true := by simp [Region.wanted, hgd]
  rw [if_pos hw]
  have hrun := run_copy_sz (P := P) w dT sT o.type elem g off dLen dCap ad sLen sCap sz cur t cs hu hsz hg hn hsrc hfit h1
  unfold Oper.wp
  simp [execOp, ho, resolve, invoke, builtin, hd, hs, hrun, Result.andThen]
  exact h _ (show _ = _ by have := row_copied (o := off) (cs := cs) hg; simpa using this) (below_setRow hb hBg _)
end

/-- n times xs, one behind the other. -/
def rep (n : Nat) (xs : List Value) : List Value := (List.replicate n xs).flatten
theorem rep_length (n : Nat) (xs : List Value) : (rep n xs).length = n * xs.length := by simp [rep]
theorem rep_add (n m : Nat) (xs : List Value) : rep (n + m) xs = rep n xs ++ rep m xs := by simp [rep, ← List.replicate_append_replicate]
theorem rep_take (n m : Nat) (xs : List Value) (h : m ≤ n) : (rep n xs).take (m * xs.length) = rep m xs := by
  obtain ⟨k, rfl⟩ : ∃ k, n = m + k := ⟨n - m, by omega⟩
  rw [rep_add, List.take_append_of_le_length (by rw [rep_length]; exact Nat.le_refl _), List.take_of_length_le (by rw [rep_length]; exact Nat.le_refl _)]
theorem rep_mem {n : Nat} {xs : List Value} {u : Value} (h : u ∈ rep n xs) : u ∈ xs := by
  simp only [rep, List.mem_flatten, List.mem_replicate] at h
  obtain ⟨l, ⟨_, rfl⟩, hu⟩ := h
  exact hu

/-- A row of which the first n elements are told grows by c of them. -/
theorem row_grow {cur : List Value} {n c sz : Nat} {xs : List Value} (hx : xs.length = sz) (h : cur.take (n * sz) = rep n xs) :
    (cur.take (n * sz) ++ rep c xs ++ cur.drop (n * sz + (rep c xs).length)).take ((n + c) * sz) = rep (n + c) xs := by
  rw [h, ← rep_add, List.take_append_of_le_length (by rw [rep_length, hx]; exact Nat.le_refl _), List.take_of_length_le (by rw [rep_length, hx]; exact Nat.le_refl _)]
end Go.Proofs.Ybulkcmtm
