/- An evaluator of straight code by the kernel: what it comes to, the calculus of the walk comes to. Sound for every program. -/
import Derived.WalkKit
import Derived.KernelRfl
import Derived.Laws.Tables
import Derived.Great.FillDense
namespace Go.Proofs.Ytdihfcmmnljchaa.Ev
open Go

/-- The places rise one by one. -/
def rising : List (Nat × Value) → Nat → Bool
  | [], _ => true
  | (i, _) :: r, k => i == k && rising r (k + 1)
def oneB : Value → Bool
  | .agg _ => false
  | _ => true
/-- An array literal of one-cell elements, without a store for each. -/
def flat (P : Program) (t : TypeId) (ps : List (Nat × Value)) : Option Value :=
  match P.info? t, P.underlying t with
  | some it, some (.array _ e) =>
    match it.zero, P.info? e with
    | some z, some ie => if ie.size == 1 && (ps.length == z.cells.size && (rising ps 0 && ps.all fun x => oneB x.2)) then some (.agg (ps.map (·.2)).toArray) else none
    | _, _ => none
  | _, _ => none

def stepOp (P : Program) (call : FuncId → Array Value → World → Option (Value × World)) (o : Oper) (a : Act) (w : World) : Option (Act × World) :=
  match (execOp a.eval o).run P w with
  | .ok (.value v) w' => some (a.put o.dst v, w')
  | .ok .skip w' => some (a.put o.dst undef, w')
  | .ok (.enter f args) w' =>
    match call f args w' with
    | some (v, w'') => some (a.put o.dst v, w'')
    | none => none
  | _ => none

def fastOp (P : Program) (call : FuncId → Array Value → World → Option (Value × World)) (o : Oper) (a : Act) (w : World) : Option (Act × World) :=
  match o.op with
  | .build t parts =>
    match flat P t (parts.toList.map fun x => (x.1, a.eval x.2)) with
    | some v => some (a.put o.dst v, w)
    | none => stepOp P call o a w
  | _ => stepOp P call o a w

def evalOps (P : Program) (call : FuncId → Array Value → World → Option (Value × World)) (ops : Array Oper) : List Oper → Act → World → Option (Act × World)
  | [], a, w => some (a, w)
  | o :: rest, a, w =>
    if Region.wanted o (yielded ops a.tmps) then
      match fastOp P call o a w with
      | some (a', w') => evalOps P call ops rest a' w'
      | none => none
    else evalOps P call ops rest (a.put o.dst undef) w

def loopN (f : Act → World → Option (Exit × Act × World)) : Nat → Act → World → Option (Exit × Act × World)
  | 0, _, _ => none
  | n + 1, a, w =>
    match f a w with
    | some (.normal, a', w') => loopN f n a' w'
    | r => r

def evalCode (P : Program) (call : FuncId → Array Value → World → Option (Value × World)) (rounds : Nat) : Code → Act → World → Option (Exit × Act × World)
  | .skip, a, w => some (.normal, a, w)
  | .label _, a, w => some (.normal, a, w)
  | .region _ ops false, a, w =>
    match evalOps P call ops ops.toList a w with
    | some (a', w') => some (.normal, a', w')
    | none => none
  | .seq x y, a, w =>
    match evalCode P call rounds x a w with
    | some (.normal, a', w') => evalCode P call rounds y a' w'
    | r => r
  | .cond c x y, a, w =>
    match a.eval c with
    | .bool true => evalCode P call rounds x a w
    | .bool false => evalCode P call rounds y a w
    | _ => none
  | .block id c, a, w =>
    match evalCode P call rounds c a w with
    | some (.exit i, a', w') => if i = id then some (.normal, a', w') else some (.exit i, a', w')
    | r => r
  | .loop c, a, w => loopN (evalCode P call rounds c) rounds a w
  | .exit id, a, w => some (.exit id, a, w)
  | .ret, a, w => some (.ret, a, w)
  | _, _, _ => none

def resVal (rs : Array ResultVar) (tmps : Array Value) : Option Value :=
  match rs.toList with
  | [] => some (.tuple #[])
  | [.tmp t] => some (tmps.getD t undef)
  | [.tmp t, .tmp u] => some (.tuple #[tmps.getD t undef, tmps.getD u undef])
  | [.tmp t, .tmp u, .tmp v] => some (.tuple #[tmps.getD t undef, tmps.getD u undef, tmps.getD v undef])
  | _ => none

def evalCall (P : Program) (rounds : Nat) : Nat → FuncId → Array Value → World → Option (Value × World)
  | 0, _, _, _ => none
  | d + 1, f, args, w =>
    match P.funcs[f]? with
    | none => none
    | some fn =>
      match fn.body with
      | none => none
      | some c =>
        match evalCode P (evalCall P rounds d) rounds c { tmps := args ++ Array.replicate (fn.ntmps - args.size) undef, defers := [] } w with
        | some (.normal, a, w') | some (.ret, a, w') =>
          match a.defers with
          | [] => (resVal fn.results a.tmps).map fun v => (v, w')
          | _ => none
        | _ => none

/-- What a call is known to do. -/
def Does (P : Program) (call : FuncId → Array Value → World → Option (Value × World)) : Prop :=
  ∀ f args w v w', call f args w = some (v, w') → Calls P f args w fun e W => e = .returned v ∧ W = w'

theorem rising_zip : ∀ (ps : List (Nat × Value)) (k : Nat), rising ps k = true → ps = ((ps.map (·.2)).zipIdx k).map fun x => (x.2, x.1)
  | [], _, _ => rfl
  | (i, v) :: r, k, h => by
    simp only [rising, Bool.and_eq_true, beq_iff_eq] at h
    obtain ⟨rfl, h⟩ := h
    have := rising_zip r (i + 1) h
    simp only [List.map_cons, List.zipIdx_cons]
    rw [← this]

theorem flat_built {P : Program} {t : TypeId} {ps : List (Nat × Value)} {v : Value} (h : flat P t ps = some v) : ∃ cells, v = .agg cells ∧ P.built t ps = some cells := by
  unfold flat at h
  unfold Program.built
  cases hit : P.info? t with
  | none => rw [hit] at h; simp at h
  | some it =>
    cases hu : P.underlying t with
    | none => rw [hit, hu] at h; simp at h
    | some d =>
      rw [hit, hu] at h
      cases d with
      | array n e =>
        dsimp only at h ⊢
        cases hz : it.zero with
        | none => rw [hz] at h; simp at h
        | some z =>
          cases hie : P.info? e with
          | none => rw [hz, hie] at h; simp at h
          | some ie =>
            rw [hz, hie] at h
            dsimp only at h ⊢
            split at h
            · rename_i hc
              simp only [Bool.and_eq_true, beq_iff_eq, List.all_eq_true] at hc
              obtain ⟨h1, h2, h3, h4⟩ := hc
              cases h
              refine ⟨_, rfl, ?_⟩
              rw [h1, rising_zip ps 0 h3]
              refine (Great.fill_flat (ps.map (·.2)) z.cells ?_ (by simpa using h2)).trans ?_
              · intro u hu
                obtain ⟨x, hx, rfl⟩ := List.mem_map.1 hu
                have := h4 x hx
                cases hv : x.2 <;> simp_all [oneB, Value.cells]
              · congr 2
                rw [← rising_zip ps 0 h3]
            · simp at h
      | _ => simp at h

theorem step_sound {P : Program} {call : FuncId → Array Value → World → Option (Value × World)} (hc : Does P call) {o : Oper} {a a' : Act} {w w' : World} {K : Act → World → Prop} {Q : Exit → Act → World → Prop}
    (h : stepOp P call o a w = some (a', w')) (hk : K a' w') : o.wp P a w K Q := by
  unfold stepOp at h
  unfold Oper.wp
  cases hr : (execOp a.eval o).run P w with
  | halt x w1 => rw [hr] at h; simp at h
  | ok n w1 =>
    rw [hr] at h
    cases n with
    | value v => cases h; exact hk
    | skip => cases h; exact hk
    | enter f args =>
      rw [Oper.upon_enter]
      dsimp only at h
      cases hcall : call f args w1 with
      | none => rw [hcall] at h; simp at h
      | some r =>
        obtain ⟨v, w2⟩ := r
        rw [hcall] at h
        simp only [Option.some.injEq, Prod.mk.injEq] at h
        obtain ⟨rfl, rfl⟩ := h
        refine (hc f args w1 v w2 hcall).mono ?_
        rintro e W ⟨rfl, rfl⟩
        exact hk
    | _ => simp at h

theorem fast_sound {P : Program} {call : FuncId → Array Value → World → Option (Value × World)} (hc : Does P call) {o : Oper} {a a' : Act} {w w' : World} {K : Act → World → Prop} {Q : Exit → Act → World → Prop}
    (h : fastOp P call o a w = some (a', w')) (hk : K a' w') : o.wp P a w K Q := by
  unfold fastOp at h
  split at h
  · rename_i t parts hop
    split at h
    · rename_i v hv
      cases h
      obtain ⟨cells, rfl, hb⟩ := flat_built hv
      have hb' : P.built t (parts.map fun (i, x) => (i, a.eval x)).toList = some cells := by rw [Array.toList_map]; exact hb
      refine wp_build t parts hop (by rw [hb']; rfl) ?_
      rw [hb']
      exact hk
    · exact step_sound hc h hk
  · exact step_sound hc h hk

theorem ops_sound {P : Program} {call : FuncId → Array Value → World → Option (Value × World)} (hc : Does P call) {ops : Array Oper} {Q : Exit → Act → World → Prop} :
    ∀ (l : List Oper) (a : Act) (w : World) (a' : Act) (w' : World), evalOps P call ops l a w = some (a', w') → Q .normal a' w' → wpList P ops Q l a w := by
  intro l
  induction l with
  | nil =>
    intro a w a' w' h hq
    simp only [evalOps, Option.some.injEq, Prod.mk.injEq] at h
    obtain ⟨rfl, rfl⟩ := h
    exact hq
  | cons o rest ih =>
    intro a w a' w' h hq
    refine wpList_step fun K hK => ?_
    rw [evalOps] at h
    by_cases hw : Region.wanted o (yielded ops a.tmps) = true
    · rw [if_pos hw] at h
      rw [if_pos hw]
      cases hr : fastOp P call o a w with
      | none => rw [hr] at h; simp at h
      | some r =>
        obtain ⟨a1, w1⟩ := r
        rw [hr] at h
        exact fast_sound hc hr (hK _ _ (ih _ _ _ _ h hq))
    · rw [if_neg hw] at h
      rw [if_neg hw]
      exact hK _ _ (ih _ _ _ _ h hq)

theorem loop_sound {P : Program} {c : Code} {f : Act → World → Option (Exit × Act × World)} (hf : ∀ (Q : Exit → Act → World → Prop) a w e a' w', f a w = some (e, a', w') → Q e a' w' → c.wp P Q a w) {Q : Exit → Act → World → Prop} :
    ∀ n a w e a' w', loopN f n a w = some (e, a', w') → Q e a' w' → Code.rounds P c Q n a w := by
  intro n
  induction n with
  | zero => intro a w e a' w' h; simp [loopN] at h
  | succ n ih =>
    intro a w e a' w' h hq
    rw [rounds_succ]
    rw [loopN] at h
    cases hr : f a w with
    | none => rw [hr] at h; simp at h
    | some r =>
      obtain ⟨e1, a1, w1⟩ := r
      rw [hr] at h
      refine hf _ a w e1 a1 w1 hr ?_
      cases e1 with
      | normal => exact ih _ _ _ _ _ h hq
      | _ =>
        simp only [Option.some.injEq, Prod.mk.injEq] at h
        obtain ⟨rfl, rfl, rfl⟩ := h
        exact hq

theorem code_sound {P : Program} {call : FuncId → Array Value → World → Option (Value × World)} (hc : Does P call) (rounds : Nat) :
    ∀ (c : Code) (Q : Exit → Act → World → Prop) (a : Act) (w : World) (e : Exit) (a' : Act) (w' : World), evalCode P call rounds c a w = some (e, a', w') → Q e a' w' → c.wp P Q a w := by
  intro c
  induction c with
  | skip =>
    intro Q a w e a' w' h hq
    simp only [evalCode, Option.some.injEq, Prod.mk.injEq] at h
    obtain ⟨rfl, rfl, rfl⟩ := h
    exact wp_skip hq
  | label l =>
    intro Q a w e a' w' h hq
    simp only [evalCode, Option.some.injEq, Prod.mk.injEq] at h
    obtain ⟨rfl, rfl, rfl⟩ := h
    exact wp_label hq
  | region id ops draw =>
    intro Q a w e a' w' h hq
    cases draw with
    | true => simp [evalCode] at h
    | false =>
      simp only [evalCode] at h
      cases hr : evalOps P call ops ops.toList a w with
      | none => rw [hr] at h; simp at h
      | some r =>
        obtain ⟨a1, w1⟩ := r
        rw [hr] at h
        simp only [Option.some.injEq, Prod.mk.injEq] at h
        obtain ⟨rfl, rfl, rfl⟩ := h
        exact wp_region_list (ops_sound hc _ _ _ _ _ hr hq)
  | seq x y ihx ihy =>
    intro Q a w e a' w' h hq
    simp only [evalCode] at h
    cases hr : evalCode P call rounds x a w with
    | none => rw [hr] at h; simp at h
    | some r =>
      obtain ⟨e1, a1, w1⟩ := r
      rw [hr] at h
      refine wp_seq (ihx _ a w e1 a1 w1 hr ?_)
      cases e1 with
      | normal => exact ihy Q a1 w1 e a' w' h hq
      | _ =>
        simp only [Option.some.injEq, Prod.mk.injEq] at h
        obtain ⟨rfl, rfl, rfl⟩ := h
        exact hq
  | cond c x y ihx ihy =>
    intro Q a w e a' w' h hq
    simp only [evalCode] at h
    split at h
    · rename_i hb; exact wp_cond_true hb (ihx Q a w e a' w' h hq)
    · rename_i hb; exact wp_cond_false hb (ihy Q a w e a' w' h hq)
    · simp at h
  | block id c ih =>
    intro Q a w e a' w' h hq
    simp only [evalCode] at h
    cases hr : evalCode P call rounds c a w with
    | none => rw [hr] at h; simp at h
    | some r =>
      obtain ⟨e1, a1, w1⟩ := r
      rw [hr] at h
      refine wp_block (ih _ a w e1 a1 w1 hr ?_)
      cases e1 with
      | exit i =>
        dsimp only at h
        by_cases hi : i = id
        · rw [if_pos hi] at h
          simp only [Option.some.injEq, Prod.mk.injEq] at h
          obtain ⟨rfl, rfl, rfl⟩ := h
          simp only [Exit.inBlock, if_pos hi]
          exact hq
        · rw [if_neg hi] at h
          simp only [Option.some.injEq, Prod.mk.injEq] at h
          obtain ⟨rfl, rfl, rfl⟩ := h
          simp only [Exit.inBlock, if_neg hi]
          exact hq
      | _ =>
        simp only [Option.some.injEq, Prod.mk.injEq] at h
        obtain ⟨rfl, rfl, rfl⟩ := h
        exact hq
  | loop c ih =>
    intro Q a w e a' w' h hq
    simp only [evalCode] at h
    exact wp_loop_rounds rounds (loop_sound ih _ _ _ _ _ _ h hq)
  | exit id =>
    intro Q a w e a' w' h hq
    simp only [evalCode, Option.some.injEq, Prod.mk.injEq] at h
    obtain ⟨rfl, rfl, rfl⟩ := h
    exact wp_exit hq
  | ret =>
    intro Q a w e a' w' h hq
    simp only [evalCode, Option.some.injEq, Prod.mk.injEq] at h
    obtain ⟨rfl, rfl, rfl⟩ := h
    exact wp_ret hq
  | _ => intro Q a w e a' w' h; simp [evalCode] at h

theorem res_sound {fn : Func} {tmps : Array Value} {v : Value} (h : resVal fn.results tmps = some v) (P : Program) (w : World) : (results fn tmps).run P w = .ok v w := by
  unfold resVal at h
  have hl : fn.results = fn.results.toList.toArray := by simp
  split at h
  · rename_i hr; rw [hr] at hl; cases h; exact results_none hl tmps P w
  · rename_i t hr; rw [hr] at hl; cases h; exact results_tmp hl tmps P w
  · rename_i t u hr; rw [hr] at hl; cases h; exact results_tmp2 hl tmps P w
  · rename_i t u x hr; rw [hr] at hl; cases h; exact results_tmp3 hl tmps P w
  · simp at h

theorem call_sound (P : Program) (rounds : Nat) : ∀ d, Does P (evalCall P rounds d) := by
  intro d
  induction d with
  | zero => intro f args w v w' h; simp [evalCall] at h
  | succ d ih =>
    intro f args w v w' h
    rw [evalCall] at h
    cases hf : P.funcs[f]? with
    | none => rw [hf] at h; simp at h
    | some fn =>
      rw [hf] at h
      dsimp only at h
      cases hb : fn.body with
      | none => rw [hb] at h; simp at h
      | some c =>
        rw [hb] at h
        dsimp only at h
        cases hr : evalCode P (evalCall P rounds d) rounds c { tmps := args ++ Array.replicate (fn.ntmps - args.size) undef, defers := [] } w with
        | none => rw [hr] at h; simp at h
        | some r =>
          obtain ⟨e1, a1, w1⟩ := r
          rw [hr] at h
          refine calls_of_wp hf hb (code_sound ih rounds c _ _ _ e1 a1 w1 hr ?_)
          have fin : (match a1.defers with | [] => (resVal fn.results a1.tmps).map fun v => (v, w1) | _ => none) = some (v, w') →
              a1.defers = [] ∧ ∃ v', (results fn a1.tmps).run P w1 = .ok v' w1 ∧ (Ending.returned v' = .returned v ∧ w1 = w') := by
            intro h
            split at h
            · rename_i hd
              refine ⟨hd, ?_⟩
              cases hv : resVal fn.results a1.tmps with
              | none => rw [hv] at h; simp at h
              | some x =>
                rw [hv] at h
                simp only [Option.map_some, Option.some.injEq, Prod.mk.injEq] at h
                obtain ⟨rfl, rfl⟩ := h
                exact ⟨x, res_sound hv P w1, rfl, rfl⟩
            · simp at h
          cases e1 with
          | normal => exact fin h
          | ret => exact fin h
          | _ => simp at h

/-- A call that the kernel evaluates. -/
theorem calls_eval {P : Program} {f : FuncId} {args : Array Value} {w w' : World} {v : Value} (rounds d : Nat) (h : evalCall P rounds d f args w = some (v, w')) :
    Calls P f args w fun e W => e = .returned v ∧ W = w' := call_sound P rounds d f args w v w' h
end Go.Proofs.Ytdihfcmmnljchaa.Ev
