/- A region in its text's order, over a frame that is a letter. -/
import Derived.Test.YtgggpllmgnpngaaGreatDoorTbRuns
import Derived.IntWalk
namespace Go.Proofs.YtgggpllmgnpngaaGreatDoor.Tb
open Go Go.RowKit

theorem ops_seq {P : Program} {ops : Array Oper} {Q : Exit → Act → World → Prop} {inv : Nat → Act → World → Prop} {n : Nat} (hs : ∀ i, i < n → ∀ a w, inv i a w → wpOp P ops Q i (inv (i + 1)) a w) (hQ : ∀ a w, inv n a w → Q .normal a w) :
    ∀ k i, i + k = n → ∀ a w, inv i a w → wpOps P ops Q (List.range' i k) a w := by
  intro k
  induction k with
  | zero => intro i hi a w h; have : i = n := by omega
            subst this; exact hQ a w h
  | succ k ih =>
    intro i hi a w h
    rw [List.range'_succ, wpOps_cons]
    exact wpOp_mono (fun a w h => ih (i + 1) (by omega) a w h) (hs i (by omega) a w h)
theorem seq_region {P : Program} {ops : Array Oper} {Q : Exit → Act → World → Prop} {inv : Nat → Act → World → Prop} {n id : Nat} {a : Act} {w : World} (hn : ops.size = n) (h0 : inv 0 a w) (hs : ∀ i, i < n → ∀ a w, inv i a w → wpOp P ops Q i (inv (i + 1)) a w) (hQ : ∀ a w, inv n a w → Q .normal a w) :
    (Code.region id ops false).wp P Q a w := by
  refine wp_region ?_
  rw [hn, List.range_eq_range']
  exact ops_seq hs hQ n 0 (by omega) a w h0

/-- A region's operations: where they write. -/
structure Plan where
  ops : Array Oper
  tmps : List Nat
  N : Nat
  n : Nat
  pre : List Nat
abbrev Plan.at (p : Plan) (i : Nat) : Oper := p.ops.getD i default
abbrev Plan.to (p : Plan) (i : Nat) : Nat := p.tmps.getD i 0
structure Plan.Ok (p : Plan) : Prop where
  size : p.n ≤ p.ops.size
  dst : ∀ i, i < p.n → (p.at i).dst = some (p.to i)
  lt : ∀ i, i < p.n → p.to i < p.N
  ne : ∀ i, i < p.n → ∀ j, j < i → p.to j ≠ p.to i
  far : ∀ i, i < p.n → ∀ t ∈ p.pre, p.to i ≠ t

/-- Where it stands: the first i done. -/
structure Pu (p : Plan) (pv : Nat → Value) (good : Nat → Value → Prop) (w0 : World) (i : Nat) (a : Act) (w : World) : Prop where
  size : a.tmps.size = p.N
  defers : a.defers = []
  pre : ∀ t ∈ p.pre, a.eval (.tmp t) = pv t
  world : w = w0
  done : ∀ j, j < i → good j (a.eval (.tmp (p.to j)))

theorem eval_put_far' (a : Act) (d t : Nat) (v : Value) (h : d ≠ t) : (a.put (some d) v).eval (.tmp t) = a.eval (.tmp t) :=
  Act.eval_put (fun e he h2 => by
    injection h2 with h2
    injection he with he
    exact h (by rw [he, h2]))
theorem eval_put_same' (a : Act) (t : Nat) (v : Value) (h : t < a.tmps.size) : (a.put (some t) v).eval (.tmp t) = v := by
  simp [Act.put, Act.eval, h]

section
variable {p : Plan} (hp : p.Ok) {pv : Nat → Value} {good : Nat → Value → Prop} {w0 : World} {i : Nat} {a : Act} {w : World} {Q : Exit → Act → World → Prop}
include hp
theorem Pu.next (h : Pu p pv good w0 i a w) (hi : i < p.n) {v : Value} (hg : good i v) : Pu p pv good w0 (i + 1) (a.put (p.at i).dst v) w := by
  rw [hp.dst i hi]
  refine ⟨by simp [Act.put, h.size], h.defers, fun t ht => ?_, h.world, fun j hj => ?_⟩
  · rw [eval_put_far' _ _ _ _ (hp.far i hi t ht)]; exact h.pre t ht
  · by_cases e : j = i
    · subst e
      rw [eval_put_same' _ _ _ (by rw [h.size]; exact hp.lt j hi)]
      exact hg
    · rw [eval_put_far' _ _ _ _ (fun e2 => hp.ne i hi j (by omega) e2.symm)]
      exact h.done j (by omega)
theorem Pu.at_ (hi : i < p.n) : p.ops[i]? = some (p.at i) := by
  show p.ops[i]? = some (p.ops.getD i default)
  rw [Array.getD_eq_getD_getElem?, Array.getElem?_eq_getElem (Nat.lt_of_lt_of_le hi hp.size)]
  rfl
/-- An operation that is done. -/
theorem Pu.run (h : Pu p pv good w0 i a w) (hi : i < p.n) {v : Value} (hw : Region.wanted (p.at i) (yielded p.ops a.tmps) = true) (hr : (execOp a.eval (p.at i)).run Tryz.prog w = .ok (.value v) w) (hg : good i v) : wpOp Tryz.prog p.ops Q i (Pu p pv good w0 (i + 1)) a w := by
  unfold wpOp
  simp only [Pu.at_ hp hi]
  rw [if_pos hw]
  refine Or.inl ?_
  unfold Oper.wp
  rw [hr]
  exact h.next hp hi hg
/-- A call that leaves the world. -/
theorem Pu.call (h : Pu p pv good w0 i a w) (hi : i < p.n) (hw : Region.wanted (p.at i) (yielded p.ops a.tmps) = true) {f : FuncId} {args : Array Value} (hr : (execOp a.eval (p.at i)).run Tryz.prog w = .ok (.enter f args) w)
    (hc : Calls Tryz.prog f args w fun e w' => (∃ v, e = .returned v ∧ good i v) ∧ w = w') : wpOp Tryz.prog p.ops Q i (Pu p pv good w0 (i + 1)) a w := by
  unfold wpOp
  simp only [Pu.at_ hp hi]
  rw [if_pos hw]
  refine Or.inl ?_
  unfold Oper.wp
  rw [hr, Oper.upon_enter]
  refine hc.mono ?_
  rintro e w' ⟨⟨v, rfl, hg⟩, rfl⟩
  exact h.next hp hi hg
/-- An operation that is passed over. -/
theorem Pu.skip (h : Pu p pv good w0 i a w) (hi : i < p.n) (hw : Region.wanted (p.at i) (yielded p.ops a.tmps) = false) (hg : good i undef) : wpOp Tryz.prog p.ops Q i (Pu p pv good w0 (i + 1)) a w := by
  unfold wpOp
  simp only [Pu.at_ hp hi]
  rw [if_neg (by rw [hw]; simp)]
  exact h.next hp hi hg
omit hp in
theorem want_none (h : (p.at i).guard = none) : Region.wanted (p.at i) (yielded p.ops a.tmps) = true := by
  unfold Region.wanted
  rw [h]
theorem want_of (h : Pu p pv good w0 i a w) {g : Nat} {b c : Bool} (hgd : (p.at i).guard = some (g, c)) (hg : g < p.n) (hv : a.eval (.tmp (p.to g)) = .bool b) : Region.wanted (p.at i) (yielded p.ops a.tmps) = (b == c) := by
  have hy : yielded p.ops a.tmps g = some b := by
    unfold yielded
    have hlt : p.to g < a.tmps.size := by rw [h.size]; exact hp.lt g hg
    have e : a.tmps[p.to g]? = some (.bool b) := by
      have : a.tmps.getD (p.to g) undef = .bool b := hv
      rw [Array.getD_eq_getD_getElem?, Array.getElem?_eq_getElem hlt] at this
      rw [Array.getElem?_eq_getElem hlt]
      exact congrArg some this
    simp only [Pu.at_ hp hg, Option.bind_some, hp.dst g hg]
    simp only [Plan.to] at e ⊢
    rw [e]
  unfold Region.wanted
  rw [hgd]
  simp only [hy]
  cases b <;> cases c <;> rfl
end

theorem reg_eq {P : Program} {id : Nat} {ops ops' : Array Oper} {b : Bool} {Q : Exit → Act → World → Prop} {a : Act} {w : World} (e : ops = ops') (h : (Code.region id ops' b).wp P Q a w) : (Code.region id ops b).wp P Q a w := e ▸ h
/-- A frame of which some slots are known. -/
theorem frame_known {a : Act} {N : Nat} {pre : List Nat} {pv : Nat → Value} (hs : a.tmps.size = N) (hd : a.defers = []) (hp : ∀ t ∈ pre, a.eval (.tmp t) = pv t) :
    a = ⟨((List.range N).map fun t => if pre.contains t then pv t else a.eval (.tmp t)).toArray, []⟩ := by
  cases a with
  | mk tmps defers =>
    simp only at hs hd
    subst hd
    congr 1
    refine Array.ext (by simp [hs]) fun i h1 h2 => ?_
    simp only [List.getElem_toArray, List.getElem_map, List.getElem_range]
    have he : (Act.mk tmps []).eval (.tmp i) = tmps[i] := by simp [Act.eval, h1]
    split
    · rename_i hc
      rw [← hp i (by simpa using hc)]
      exact he.symm
    · exact he.symm
theorem Pu.region {p : Plan} (hn : p.ops.size = p.n) {pv : Nat → Value} {good : Nat → Value → Prop} {id : Nat} {a : Act} {w : World} {K : Act → World → Prop} {Q' : Exit → Act → World → Prop} (h0 : Pu p pv good w 0 a w)
    (hs : ∀ i, i < p.n → ∀ a' w', Pu p pv good w i a' w' → wpOp Tryz.prog p.ops (Exit.then K Q') i (Pu p pv good w (i + 1)) a' w')
    (rest : ∀ f : Nat → Value, (∀ j, j < p.n → good j (f (p.to j))) → K ⟨((List.range p.N).map fun t => if p.pre.contains t then pv t else f t).toArray, []⟩ w) :
    (Code.region id p.ops false).wp Tryz.prog (Exit.then K Q') a w := by
  refine seq_region hn h0 hs fun a' w' h => ?_
  have e := frame_known h.size h.defers h.pre
  have := rest (fun t => a'.eval (.tmp t)) h.done
  rw [← e, ← h.world] at this
  exact this

section
variable (a : Act) (w : World) (o : Oper)
theorem r_move (x : Operand) (v : Value) (ho : o.op = .move x) (hx : a.eval x = v) : (execOp a.eval o).run Tryz.prog w = .ok (.value v) w := by
  unfold execOp; rw [ho]; dsimp only; rw [hx]; rfl
theorem r_assign (x : Operand) (v : Value) (ho : o.op = .assign x) (hx : a.eval x = v) : (execOp a.eval o).run Tryz.prog w = .ok (.value v) w := by
  unfold execOp; rw [ho]; dsimp only; rw [hx]; rfl
theorem r_nil (x : Operand) (b k : Nat) (ho : o.op = .nilCheck x) (hx : a.eval x = .pointer (some ⟨b, k, none⟩)) : (execOp a.eval o).run Tryz.prog w = .ok (.value (.pointer (some ⟨b, k, none⟩))) w := by
  unfold execOp; rw [ho]; dsimp only; rw [hx]; rfl
theorem r_fa (x : Operand) (b k st f : Nat) (ho : o.op = .fieldAddr st x f) (hx : a.eval x = .pointer (some ⟨b, 0, none⟩)) (hr : ∀ w, (Instr.fieldAt st (.pointer (some ⟨b, 0, none⟩)) f).run Tryz.prog w = .ok (.pointer (some ⟨b, k, none⟩)) w) : (execOp a.eval o).run Tryz.prog w = .ok (.value (.pointer (some ⟨b, k, none⟩))) w := by
  unfold execOp; rw [ho]; dsimp only; rw [hx, Sem.run_bind, hr]; rfl
theorem r_ld (x : Operand) (b k ty : Nat) (d : TypeDesc) (v : Value) (ho : o.op = .load ty x) (hx : a.eval x = .pointer (some ⟨b, k, none⟩)) (hc : w.cell? ⟨b, k, none⟩ = some v) (hu : Tryz.prog.underlying ty = some d) (hd : (match d with | .struct _ | .array _ _ => true | _ => false) = false) : (execOp a.eval o).run Tryz.prog w = .ok (.value v) w := by
  unfold execOp; rw [ho]; dsimp only; rw [hx, Sem.run_bind, run_load1 w b k ty d v hc hu hd]; rfl
theorem r_len (x : Operand) (t : TypeId) (A : Option Addr) (n c : Nat) (e : TypeId) (ho : o.op = .call { callee := .builtin .len, args := #[x], argTypes := #[t] }) (hx : a.eval x = .slice A n c) (ht : Tryz.prog.underlying t = some (.slice e)) : (execOp a.eval o).run Tryz.prog w = .ok (.value (.int .i64 (n : Nat))) w := by
  unfold execOp
  simp [ho, resolve, hx, invoke, builtin, Builtin.len_, run_underlying ht, goInt, Result.andThen]
theorem r_lss (x y : Operand) (p q : Int) (b : Bool) (ho : o.op = .binOp .lss 3 x y 3) (hx : a.eval x = .int .i64 p) (hy : a.eval y = .int .i64 q) (hb : decide (p < q) = b) : (execOp a.eval o).run Tryz.prog w = .ok (.value (.bool b)) w := by
  unfold execOp; rw [ho]; dsimp only; rw [hx, hy]; simp [eqGuard, binOp, Op.intCmp, hb]
theorem r_gtr (x y : Operand) (p q : Int) (b : Bool) (ho : o.op = .binOp .gtr 3 x y 3) (hx : a.eval x = .int .i64 p) (hy : a.eval y = .int .i64 q) (hb : decide (q < p) = b) : (execOp a.eval o).run Tryz.prog w = .ok (.value (.bool b)) w := by
  unfold execOp; rw [ho]; dsimp only; rw [hx, hy]; simp [eqGuard, binOp, Op.intCmp, hb]
theorem r_leq (x y : Operand) (p q : Int) (b : Bool) (ho : o.op = .binOp .leq 3 x y 3) (hx : a.eval x = .int .i64 p) (hy : a.eval y = .int .i64 q) (hb : decide (p ≤ q) = b) : (execOp a.eval o).run Tryz.prog w = .ok (.value (.bool b)) w := by
  unfold execOp; rw [ho]; dsimp only; rw [hx, hy]; simp [eqGuard, binOp, Op.intCmp, hb]
theorem r_geq (x y : Operand) (p q : Int) (b : Bool) (ho : o.op = .binOp .geq 3 x y 3) (hx : a.eval x = .int .i64 p) (hy : a.eval y = .int .i64 q) (hb : decide (q ≤ p) = b) : (execOp a.eval o).run Tryz.prog w = .ok (.value (.bool b)) w := by
  unfold execOp; rw [ho]; dsimp only; rw [hx, hy]; simp [eqGuard, binOp, Op.intCmp, hb]
theorem r_neq (x y : Operand) (p q : Int) (b : Bool) (ho : o.op = .binOp .neq 3 x y 3) (hx : a.eval x = .int .i64 p) (hy : a.eval y = .int .i64 q) (hb : (p != q) = b) : (execOp a.eval o).run Tryz.prog w = .ok (.value (.bool b)) w := by
  unfold execOp; rw [ho]; dsimp only; rw [hx, hy, ← hb]; simp [eqGuard, binOp, Op.intCmp]
theorem r_pick (c x y : Operand) (b : Bool) (u v r : Value) (ho : o.op = .pick c x y) (hc : a.eval c = .bool b) (hx : a.eval x = u) (hy : a.eval y = v) (hr : (if b then u else v) = r) : (execOp a.eval o).run Tryz.prog w = .ok (.value r) w := by
  unfold execOp; rw [ho]; dsimp only; rw [hc, hx, hy]; simp [asBool, hr]
end
end Go.Proofs.YtgggpllmgnpngaaGreatDoor.Tb
