/- Laws on a row of cells that is known whole, its elements of several cells: copy within it, a store of one element. -/
import Derived.WalkKit
import Derived.Laws.CopyOwn
namespace Go.Proofs.Ytdihfcmmnljchaa.Row
open Go Go.RowKit

section
variable {P : Program}

theorem run_copy_none_s (w : World) (dT sT ty elem : TypeId) (s : Nat) (d a : Option Addr) (dLen dCap sLen sCap : Nat) (hu : P.underlying dT = some (.slice elem)) (hs : (P.info? elem).map (·.size) = some s) (hn : Nat.min sLen dLen = 0) :
    (Builtin.copy_ #[dT, sT] ty #[.slice d dLen dCap, .slice a sLen sCap]).run P w = .ok (goInt 0) w := by
  cases hq : P.info? elem with
  | none => simp [hq] at hs
  | some i =>
    have hl : ∀ (x : Addr), (loadCells x 0).run P w = .ok #[] w := fun x => by simpa using run_loadCells_list (P := P) w x [] (by simp)
    cases d <;> cases a <;> simp [Builtin.copy_, run_underlying hu, Builtin.lenOf, Builtin.firstCells, sizeOf, typeInfo, hq, hn, storeCells, hl]

theorem run_copy_s (w : World) (dT sT ty elem : TypeId) (s g o dLen dCap : Nat) (a : Addr) (sLen sCap : Nat) (cur : Array Value) (t : TypeId) (cs : List Value)
    (hu : P.underlying dT = some (.slice elem)) (hs : (P.info? elem).map (·.size) = some s)
    (hg : w.heap[g]? = some (.cells cur t (0, 0))) (hn : cs.length = Nat.min sLen dLen * s)
    (hsrc : ∀ j v, cs[j]? = some v → w.cell? (a.add j) = some v) (hfit : o + cs.length ≤ cur.size) (h1 : ∀ v ∈ cs, v.oneCell' = true) :
    (Builtin.copy_ #[dT, sT] ty #[.slice (some ⟨g, o, none⟩) dLen dCap, .slice (some a) sLen sCap]).run P w =
      .ok (goInt (Nat.min sLen dLen)) (w.setRow g (cur.toList.take o ++ cs ++ cur.toList.drop (o + cs.length)).toArray) := by
  have hl := run_loadCells_list (P := P) w a cs hsrc
  have hst := run_storeCells_at P g o t cs 0 cur w hg (by simpa using hfit) h1
  cases hq : P.info? elem with
  | none => simp [hq] at hs
  | some i =>
    have hi : i.size = s := by simpa [hq] using hs
    rw [hn] at hl
    simp [Builtin.copy_, run_underlying hu, Builtin.lenOf, Builtin.firstCells, sizeOf, typeInfo, hq, hi, hl, hst]

/-- 'copy' of elements of s cells, the row known whole. -/
theorem wpList_copy_s {w : World} {ops : Array Oper} {rest : List Oper} {o : Oper} {a : Act} {Q : Exit → Act → World → Prop} (hgd : o.guard = none) (d x : Operand) (dT sT : TypeId)
    (ho : o.op = .call { callee := .builtin .copy, args := #[d, x], argTypes := #[dT, sT] }) (elem : TypeId) (s : Nat) (hu : P.underlying dT = some (.slice elem)) (hsz : (P.info? elem).map (·.size) = some s)
    (dp sp : Option Addr) (dLen dCap sLen sCap : Nat) (hd : a.eval d = .slice dp dLen dCap) (hs : a.eval x = .slice sp sLen sCap)
    (g off : Nat) (cur : List Value) (t : TypeId) (hg : w.heap[g]? = some (.cells cur.toArray t (0, 0))) (cs : List Value) (hn : cs.length = Nat.min sLen dLen * s)
    (hpos : 0 < Nat.min sLen dLen → dp = some ⟨g, off, none⟩ ∧ ∃ ad, sp = some ad ∧ ∀ j v, cs[j]? = some v → w.cell? (ad.add j) = some v)
    (hfit : off + cs.length ≤ cur.length) (h1 : ∀ v ∈ cs, v.oneCell' = true) (B : Nat) (w0 : World) (hb : Below B w0 w) (hBg : B ≤ g)
    (h : ∀ w' k, Hid (w'.heap[g]? = some (.cells (splice cur off cs).toArray t (0, 0))) → Hid (∀ j, j ≠ g → w'.heap[j]? = w.heap[j]?) → Below B w0 w' → w'.heap.size = w.heap.size → wpList P ops Q rest (a.put o.dst (goInt k)) w') :
    wpList P ops Q (o :: rest) a w := by
  refine wpList_plain hgd fun K hK => ?_
  by_cases h0 : Nat.min sLen dLen = 0
  · have hrun := run_copy_none_s (P := P) w dT sT o.type elem s dp sp dLen dCap sLen sCap hu hsz h0
    rw [h0, Nat.zero_mul] at hn
    obtain rfl : cs = [] := List.eq_nil_of_length_eq_zero hn
    unfold Oper.wp
    simp [execOp, ho, resolve, invoke, builtin, hd, hs, hrun, Result.andThen]
    exact hK _ _ (h w 0 (show _ = _ by simpa [splice] using hg) (fun _ _ => rfl) hb rfl)
  · obtain ⟨rfl, ad, rfl, hsrc⟩ := hpos (by omega)
    have hrun := run_copy_s (P := P) w dT sT o.type elem s g off dLen dCap ad sLen sCap cur.toArray t cs hu hsz hg hn hsrc (by simpa using hfit) h1
    unfold Oper.wp
    simp [execOp, ho, resolve, invoke, builtin, hd, hs, hrun, Result.andThen]
    have e := h (w.setRow g (splice cur off cs).toArray) (Nat.min sLen dLen) (setRow_heap w g _ _ t _ hg) (fun j hj => setRow_other w g j _ hj) (below_setRow hb hBg _) (by simp)
    simp only [splice] at e ⊢
    exact hK _ _ e

/-- A store of an element of several cells into a row known whole. -/
theorem wpList_store_s {w : World} {ops : Array Oper} {rest : List Oper} {o : Oper} {a : Act} {Q : Exit → Act → World → Prop} (hgd : o.guard = none) (ty : TypeId) (x y : Operand)
    (ho : o.op = .store ty x y) (g off : Nat) (cs : List Value) (hx : a.eval x = .pointer (some ⟨g, off, none⟩)) (hy : a.eval y = .agg cs.toArray) (hi : (P.info? ty).map (·.size) = some cs.length)
    (cur : List Value) (t : TypeId) (hg : w.heap[g]? = some (.cells cur.toArray t (0, 0))) (hfit : off + cs.length ≤ cur.length) (h1 : ∀ v ∈ cs, v.oneCell' = true) (B : Nat) (w0 : World) (hb : Below B w0 w) (hBg : B ≤ g)
    (h : ∀ w', Hid (w'.heap[g]? = some (.cells (splice cur off cs).toArray t (0, 0))) → Hid (∀ j, j ≠ g → w'.heap[j]? = w.heap[j]?) → Below B w0 w' → w'.heap.size = w.heap.size → wpList P ops Q rest (a.put o.dst undef) w') :
    wpList P ops Q (o :: rest) a w := by
  refine wpList_plain hgd fun K hK => ?_
  have hst := run_storeCells_at P g off t cs 0 cur.toArray w hg (by simpa using hfit) h1
  cases hq : P.info? ty with
  | none => simp [hq] at hi
  | some i =>
    have hs : i.size = cs.length := by simpa [hq] using hi
    have hrun : (storeVar ty ⟨g, off, none⟩ (.agg cs.toArray)).run P w = .ok () (w.setRow g (splice cur off cs).toArray) := by
      simp only [Nat.add_zero] at hst
      simp [storeVar, sizeOf, typeInfo, hq, Value.cells, hs, hst, splice]
    have e := h (w.setRow g (splice cur off cs).toArray) (setRow_heap w g _ _ t _ hg) (fun j hj => setRow_other w g j _ hj) (below_setRow hb hBg _) (by simp)
    unfold Oper.wp execOp
    simp only [ho, hx, hy, Instr.storeAt, Instr.sureAddr, Sem.run_bind, Sem.run_pure, Result.andThen_ok, hrun]
    exact hK _ _ e
end

theorem own_form {w : World} {base n : Nat} {e : TypeId} {size : Nat} {v : Value} {xs : List Value} (h : w.ownsRow base e size v n xs) (hn : 0 < n) :
    ∃ g cap cur, v = .slice (some ⟨g, 0, none⟩) n cap ∧ base ≤ g ∧ w.heap[g]? = some (.cells (List.toArray cur) e (0, 0)) ∧ n ≤ cap ∧ cap ≤ maxLen ∧ cur.length = cap * size ∧ cur.take (n * size) = xs := by
  rcases h.2 with ⟨_, h0⟩ | ⟨g, cap, cur, hv, hg, hh, h1, h2, h3, h4⟩
  · omega
  · exact ⟨g, cap, cur.toList, hv, hg, by simpa using hh, h1, h2, by simpa using h3, h4⟩

/-- An element moved in: the row behind an append, a copy and a store. -/
theorem splice_in {X1 X2 Z R pg : List Value} (hz : Z.length = pg.length) :
    splice (splice (X1 ++ (X2 ++ (Z ++ R))) (X1.length + pg.length) X2) X1.length pg = X1 ++ (pg ++ (X2 ++ R)) := by
  have e1 : (X1 ++ (X2 ++ (Z ++ R))).take (X1.length + pg.length) = X1 ++ ((X2 ++ Z).take pg.length) := by
    rw [List.take_length_add_append, ← List.append_assoc X2 Z R, List.take_append_of_le_length (by simp; omega)]
  have e2 : (X1 ++ (X2 ++ (Z ++ R))).drop (X1.length + pg.length + X2.length) = R := by
    rw [Nat.add_assoc, List.drop_length_add_append, ← List.append_assoc X2 Z R, List.drop_append_of_le_length (by simp; omega), List.drop_eq_nil_of_le (by simp; omega)]
    rfl
  have hl : ((X2 ++ Z).take pg.length).length = pg.length := by simp; omega
  unfold splice
  rw [e1, e2]
  generalize (X2 ++ Z).take pg.length = T at hl
  rw [List.append_assoc, List.take_append_of_le_length (by simp), List.take_of_length_le (Nat.le_refl _), List.drop_length_add_append, List.drop_append_of_le_length (by omega), List.drop_eq_nil_of_le (by omega)]
  simp

theorem length_splice_in (L : List Value) (off : Nat) (cs : List Value) (h : off + cs.length ≤ L.length) : (splice L off cs).length = L.length := length_splice L off cs h
end Go.Proofs.Ytdihfcmmnljchaa.Row
