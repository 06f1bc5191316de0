/- The region of the map's literal: operations of each kind. -/
import Derived.Test.YtgggpllmgnpngaaGreatDoorTbCtx
namespace Go.Proofs.YtgggpllmgnpngaaGreatDoor.Tb
open Go Go.RowKit

theorem set_other {listed : Array Bool} {i j : Nat} (h : j ≠ i) : (listed.setIfInBounds i true).getD j false = listed.getD j false := by
  simp [Ne.symm h]
theorem tmp_shared : ∀ i, i < 82 → i ∉ shared → tmpAt i ≠ 39 ∧ tmpAt i ≠ 112 ∧ tmpAt i ≠ 10 := by decide +kernel
theorem ins_shared : ∀ j, j ∈ insL → insOf j ∈ shared := by decide +kernel
theorem Sof_other {listed : Array Bool} {i : Nat} (h : ∀ j ∈ insL, insOf j ≠ i) : Sof (listed.setIfInBounds i true) = Sof listed := by
  unfold Sof
  exact List.filter_congr fun j hj => by rw [set_other (h j hj)]

theorem ShOf.keep {c : Ctx} {listed : Array Bool} {a : Act} {M : Foot} {w w' : World} {i : Nat} {v : Value} (h : ShOf c listed a M w) (hi : i < 82) (hn : i ∉ shared) (hb : ∀ b, M b → w'.heap[b]? = w.heap[b]?) :
    ShOf c (listed.setIfInBounds i true) (a.put (opAt i).dst v) M w' := by
  have hne : ∀ j, j ∈ shared → j ≠ i := fun j hj e => hn (e ▸ hj)
  have hS : Sof (listed.setIfInBounds i true) = Sof listed := Sof_other fun j hj => hne _ (ins_shared j hj)
  have s0 := set_other (listed := listed) (hne 0 (by decide))
  have s5 := set_other (listed := listed) (hne 5 (by decide))
  have s80 := set_other (listed := listed) (hne 80 (by decide))
  have s81 := set_other (listed := listed) (hne 81 (by decide))
  have f := tmp_shared i hi hn
  have hR := hb c.R h.mine
  refine ⟨fun h5 => (h.fresh (by rw [← s5]; exact h5)).block hR, ?_, h.mine, fun h0 => ?_, fun h0 => ?_⟩
  · obtain ⟨q, h1, h2⟩ := h.writer
    exact ⟨q, h1, h2.block hR⟩
  · rw [hS, s80, s81]
    exact h.none (by rw [← s0]; exact h0)
  · obtain ⟨m, h1, h2, h3, len, Fm, h4, h5, h6⟩ := h.map (by rw [← s0]; exact h0)
    refine ⟨m, ?_, fun h80 => ?_, fun h81 => ?_, len, Fm, by rw [hS]; exact h4, by rw [hS]; exact h5.keep (fun b hb2 => hb b (h6 b hb2).1), h6⟩
    · rw [eval_put_far _ _ _ _ (dst_ne hi (Or.inl f.1))]; exact h1
    · rw [eval_put_far _ _ _ _ (dst_ne hi (Or.inl f.2.1))]; exact h2 (by rw [← s80]; exact h80)
    · rw [eval_put_far _ _ _ _ (dst_ne hi (Or.inl f.2.2))]; exact h3 (by rw [← s81]; exact h81)

/-- What a plain operation does. -/
def Plain (c : Ctx) (i : Nat) (F : Nat → Foot) (a : Act) (w : World) (a' : Act) (w' : World) : Prop :=
  ∃ (v : Value) (Fx Fx' : Foot), a' = a.put (opAt i).dst v ∧ On Fx Fx' w w' ∧ (∀ b, Fx b → ∃ t, t ∈ takesL.getD i [] ∧ F t b) ∧ liveK (kindAt c i) v Fx' w' ∧ ∀ b, Fx' b → b < w'.heap.size

theorem below_on {c : Ctx} {w w' : World} {Fx Fx' : Foot} (h : Below c.w0.heap.size c.w0 w) (hon : On Fx Fx' w w') (hf : ∀ b, Fx b → c.w0.heap.size ≤ b) : Below c.w0.heap.size c.w0 w' :=
  ⟨hon.os.trans h.os, hon.tape.trans h.tape, hon.output.trans h.output, Nat.le_trans h.size hon.size, fun q hq => (hon.block q (Nat.lt_of_lt_of_le hq h.size) (fun hF => by have := hf q hF; omega)).trans (h.block q hq)⟩

theorem step_plain {c : Ctx} (hc : c.Ok) {Q : Exit → Act → World → Prop} (i : Nat) (hi : i < 82) (hn : i ∉ shared) (hd : tmpAt i ≠ 0)
    (h : ∀ (a : Act) (w : World) (F : Nat → Foot), BaseOf c a w → (∀ t, t ∈ takesL.getD i [] → liveK (kindAt c t) (a.eval (.tmp (tmpAt t))) (F t) w ∧ ∀ b, F t b → b < w.heap.size ∧ c.R ≤ b) →
      (∀ t k, t ∈ takesL.getD i [] → k ∈ takesL.getD i [] → t ≠ k → ∀ b, F t b → ¬ F k b) → (opAt i).wp Tryz.prog a w (Plain c i F a w) Q) :
    StepOK Tryz.prog ops11 Q (lawOf c) c.R i := by
  intro o listed a w F M ho hun hall hb hB hsh hM hlive hdis
  obtain ⟨_, rfl⟩ := at_of ho
  refine wpOp_of ho (dst_is i hi).2 (Oper.wp_mono ?_ (h a w F hb (fun t ht => ⟨(hlive t ht).1, fun b hb2 => ⟨((hlive t ht).2 b hb2).1, ((hlive t ht).2 b hb2).2.1⟩⟩) hdis))
  rintro a' w' ⟨v, Fx, Fx', rfl, hon, hFx, hl, hlt⟩
  have hFxM : ∀ b, Fx b → c.R ≤ b ∧ ¬ M b := fun b hb2 => by
    obtain ⟨t, ht, hF⟩ := hFx b hb2
    exact ⟨((hlive t ht).2 b hF).2.1, ((hlive t ht).2 b hF).2.2⟩
  have hkeep : ∀ b, M b → w'.heap[b]? = w.heap[b]? := fun b hb2 => hon.block b (hM b hb2).2 (fun hF => (hFxM b hF).2 hb2)
  have hbelow := below_on hb.below hon (fun b hb2 => by rw [hc.base]; exact (hFxM b hb2).1)
  have hsz := hon.size
  refine ⟨v, Fx', M, rfl, hb.put hi hbelow, hsh.keep hi hn hkeep, ?_, hsz, fun b hb2 => ?_, fun b hb2 => ⟨Nat.lt_of_lt_of_le (hM b hb2).2 hsz, (hM b hb2).1, Or.inl hb2⟩, fun b hlt2 hnM hnF => hon.block b hlt2 (fun hF => by
      obtain ⟨t, ht, hF2⟩ := hFx b hF
      exact hnF t ht hF2)⟩
  · show liveK (kindAt c i) ((a.put (opAt i).dst v).eval (.tmp (tmpAt i))) Fx' w'
    rw [(dst_is i hi).1, if_neg hd, eval_put_same _ _ _ (by rw [hb.size]; exact tmp_lt i)]
    exact hl
  · refine ⟨hlt b hb2, ?_⟩
    rcases hon.foot b hb2 with h1 | h1
    · obtain ⟨t, ht, hF⟩ := hFx b h1
      exact ⟨(hFxM b h1).1, (hFxM b h1).2, Or.inr ⟨t, ht, hF⟩⟩
    · exact ⟨Nat.le_trans hB h1, fun hm => by have := (hM b hm).2; omega, Or.inl h1⟩

theorem on_same (F : Foot) (w : World) : On F F w w := ⟨rfl, rfl, rfl, Nat.le_refl _, fun _ h => Or.inl h, fun _ _ _ => rfl⟩
theorem plain_val {c : Ctx} {i : Nat} {F : Nat → Foot} {a : Act} {w : World} {Q : Exit → Act → World → Prop} {v : Value} (hr : (execOp a.eval (opAt i)).run Tryz.prog w = .ok (.value v) w) (hk : kindAt c i = .val v) :
    (opAt i).wp Tryz.prog a w (Plain c i F a w) Q := by
  unfold Oper.wp
  rw [hr]
  exact ⟨v, fun _ => False, fun _ => False, rfl, on_same _ w, fun b h => h.elim, by rw [hk]; rfl, fun b h => h.elim⟩
theorem plain_pass {c : Ctx} {i t : Nat} {F : Nat → Foot} {a : Act} {w : World} {Q : Exit → Act → World → Prop} {v : Value} (hr : (execOp a.eval (opAt i)).run Tryz.prog w = .ok (.value v) w) (ht : t ∈ takesL.getD i []) (Fx : Foot) (hF : ∀ b, Fx b → F t b) (hlt : ∀ b, F t b → b < w.heap.size) (hk : liveK (kindAt c i) v Fx w) :
    (opAt i).wp Tryz.prog a w (Plain c i F a w) Q := by
  unfold Oper.wp
  rw [hr]
  exact ⟨v, Fx, Fx, rfl, on_same _ w, fun b h => ⟨t, ht, hF b h⟩, hk, fun b h => hlt b (hF b h)⟩
theorem on_alloc (w : World) (o : Obj) : On (fun _ => False) (fun b => b = w.heap.size) w (w.alloc o) :=
  ⟨rfl, rfl, rfl, by rw [World.size_alloc]; omega, fun b h => Or.inr (by omega), fun b hb _ => Below.heap_alloc _ _ _ hb⟩

section
variable {c : Ctx} (hc : c.Ok) {Q : Exit → Act → World → Prop}
include hc
theorem s_move (i : Nat) (hi : i < 82) (hn : i ∉ shared) (hd : tmpAt i ≠ 0) (s : Nat) (v : Value) (hop : (opAt i).op = .move (.tmp s)) (hk : kindAt c i = .val v) (hb : ∀ a w, BaseOf c a w → a.eval (.tmp s) = v) : StepOK Tryz.prog ops11 Q (lawOf c) c.R i :=
  step_plain hc i hi hn hd fun a w F hbase _ _ => plain_val (by unfold execOp; rw [hop]; dsimp only; rw [hb a w hbase]; rfl) hk
theorem s_nilv (i t : Nat) (hi : i < 82) (hn : i ∉ shared) (hd : tmpAt i ≠ 0) (ht : t ∈ takesL.getD i []) (b o : Nat) (hop : (opAt i).op = .nilCheck (.tmp (tmpAt t))) (hk : kindAt c i = .val (pt b o)) (hkt : kindAt c t = .val (pt b o)) : StepOK Tryz.prog ops11 Q (lawOf c) c.R i :=
  step_plain hc i hi hn hd fun a w F hbase hl _ => plain_val (by
    have h1 := (hl t ht).1
    rw [hkt] at h1
    unfold execOp; rw [hop]; dsimp only
    rw [show a.eval (.tmp (tmpAt t)) = pt b o from h1]; rfl) hk
theorem s_fav (i t : Nat) (hi : i < 82) (hn : i ∉ shared) (hd : tmpAt i ≠ 0) (ht : t ∈ takesL.getD i []) (b o st f : Nat) (hop : (opAt i).op = .fieldAddr st (.tmp (tmpAt t)) f) (hk : kindAt c i = .val (pt b o)) (hkt : kindAt c t = .val (pt b 0)) (hr : ∀ w, (Instr.fieldAt st (pt b 0) f).run Tryz.prog w = .ok (pt b o) w) : StepOK Tryz.prog ops11 Q (lawOf c) c.R i :=
  step_plain hc i hi hn hd fun a w F hbase hl _ => plain_val (by
    have h1 := (hl t ht).1
    rw [hkt] at h1
    unfold execOp; rw [hop]; dsimp only
    rw [show a.eval (.tmp (tmpAt t)) = pt b 0 from h1, Sem.run_bind, hr]; rfl) hk
theorem s_fab (i : Nat) (hi : i < 82) (hn : i ∉ shared) (hd : tmpAt i ≠ 0) (o st f : Nat) (hop : (opAt i).op = .fieldAddr st (.tmp 2) f) (hk : kindAt c i = .val (pt c.F o)) (hr : ∀ w, (Instr.fieldAt st (pt c.F 0) f).run Tryz.prog w = .ok (pt c.F o) w) : StepOK Tryz.prog ops11 Q (lawOf c) c.R i :=
  step_plain hc i hi hn hd fun a w F hbase _ _ => plain_val (by
    unfold execOp; rw [hop]; dsimp only
    rw [hbase.t2, Sem.run_bind, hr]; rfl) hk
theorem s_ldv (i t : Nat) (hi : i < 82) (hn : i ∉ shared) (hd : tmpAt i ≠ 0) (ht : t ∈ takesL.getD i []) (o ty : Nat) (d : TypeDesc) (v : Value) (hop : (opAt i).op = .load ty (.tmp (tmpAt t))) (hk : kindAt c i = .val v) (hkt : kindAt c t = .val (pt c.F o)) (hcell : (fileCells c.M c.b7 c.b16 c.b17 (.slice (some ⟨c.G, 0, none⟩) c.k c.cap) (.int .i64 1))[o]? = some v) (hu : Tryz.prog.underlying ty = some d) (hdd : (match d with | .struct _ | .array _ _ => true | _ => false) = false) : StepOK Tryz.prog ops11 Q (lawOf c) c.R i :=
  step_plain hc i hi hn hd fun a w F hbase hl _ => plain_val (by
    have h1 := (hl t ht).1
    rw [hkt] at h1
    unfold execOp; rw [hop]; dsimp only
    rw [show a.eval (.tmp (tmpAt t)) = pt c.F o from h1, Sem.run_bind, run_load1 w c.F o ty d v (below_cell hbase.below (hc.file.cells o v hcell)) hu hdd]; rfl) hk
theorem s_build (i : Nat) (hi : i < 82) (hn : i ∉ shared) (hd : tmpAt i ≠ 0) (hop : (opAt i).op = .build 67 #[]) (hk : kindAt c i = .val agg0) : StepOK Tryz.prog ops11 Q (lawOf c) c.R i :=
  step_plain hc i hi hn hd fun a w F hbase _ _ => plain_val (by
    unfold execOp; rw [hop]; dsimp only
    rw [Sem.run_bind, show (Array.map (fun x : Nat × Operand => (x.1, a.eval x.2)) #[]) = #[] from by simp, build67]; rfl) hk
theorem s_box (i t : Nat) (hi : i < 82) (hn : i ∉ shared) (hd : tmpAt i ≠ 0) (ht : t ∈ takesL.getD i []) (hop : (opAt i).op = .box 67 (.tmp (tmpAt t))) (hk : kindAt c i = .tab 0) (hkt : kindAt c t = .val agg0) : StepOK Tryz.prog ops11 Q (lawOf c) c.R i :=
  step_plain hc i hi hn hd fun a w F hbase hl _ => by
    have h1 := (hl t ht).1
    rw [hkt] at h1
    have hr : (execOp a.eval (opAt i)).run Tryz.prog w = .ok (.value (pt w.heap.size 0)) (w.alloc (.cells #[.slice none 0 0, .slice none 0 0] 67)) := by
      unfold execOp; rw [hop]; dsimp only
      rw [show a.eval (.tmp (tmpAt t)) = agg0 from h1, Sem.run_bind, box67]; rfl
    unfold Oper.wp
    rw [hr]
    exact ⟨_, fun _ => False, fun b => b = w.heap.size, rfl, on_alloc w _, fun b h => h.elim, by rw [hk]; exact ⟨_, rfl, tabf_start w⟩, fun b h => by rw [World.size_alloc]; omega⟩
theorem s_bs (i : Nat) (hi : i < 82) (hn : i ∉ shared) (hd : tmpAt i ≠ 0) (m : Nat) (l : List Int) (parts : Array (Nat × Operand)) (hop : (opAt i).op = .buildSlice 29 m parts) (hk : kindAt c i = .nums l) (hm : l.length = m)
    (hr : ∀ a w, BaseOf c a w → (∀ t, t ∈ takesL.getD i [] → ∃ F, liveK (kindAt c t) (a.eval (.tmp (tmpAt t))) F w) → (Instr.buildSlice 29 m (parts.map fun (i, x) => (i, a.eval x))).run Tryz.prog w = .ok (.slice (some ⟨w.heap.size, 0, none⟩) m m) (w.alloc (.cells (l.map fun x => Value.int .i64 x).toArray 3))) : StepOK Tryz.prog ops11 Q (lawOf c) c.R i :=
  step_plain hc i hi hn hd fun a w F hbase hl _ => by
    have hr' : (execOp a.eval (opAt i)).run Tryz.prog w = .ok (.value (.slice (some ⟨w.heap.size, 0, none⟩) m m)) (w.alloc (.cells (l.map fun x => Value.int .i64 x).toArray 3)) := by
      unfold execOp; rw [hop]; dsimp only
      rw [Sem.run_bind, hr a w hbase (fun t ht => ⟨_, (hl t ht).1⟩)]; rfl
    unfold Oper.wp
    rw [hr']
    have hcell : ∀ (j : Nat) (x : Int), l[j]? = some x → (w.alloc (.cells (l.map fun x => Value.int .i64 x).toArray 3)).cell? ⟨w.heap.size, j, none⟩ = some (.int .i64 x) := fun j x hx => by
      rw [cell_in (heap_alloc_new w _)]
      simp [hx]
    exact ⟨_, fun _ => False, fun b => b = w.heap.size, rfl, on_alloc w _, fun b h => h.elim, by rw [hk]; exact ⟨_, by rw [hm], by rw [World.size_alloc]; omega, rfl, hcell⟩, fun b h => by rw [World.size_alloc]; omega⟩
theorem s_nilt (i t n : Nat) (hi : i < 82) (hn : i ∉ shared) (hd : tmpAt i ≠ 0) (ht : t ∈ takesL.getD i []) (hop : (opAt i).op = .nilCheck (.tmp (tmpAt t))) (hk : kindAt c i = .tab n) (hkt : kindAt c t = .tab n) : StepOK Tryz.prog ops11 Q (lawOf c) c.R i :=
  step_plain hc i hi hn hd fun a w F hbase hl _ => by
    have h1 := (hl t ht).1
    rw [hkt] at h1
    obtain ⟨T, h2, h3⟩ := h1
    exact plain_pass (v := pt T 0) (by unfold execOp; rw [hop]; dsimp only; rw [h2]; rfl) ht (F t) (fun b h => h) (fun b h => ((hl t ht).2 b h).1) (by rw [hk]; exact ⟨T, rfl, h3⟩)
theorem s_fat (i t n : Nat) (hi : i < 82) (hn : i ∉ shared) (hd : tmpAt i ≠ 0) (ht : t ∈ takesL.getD i []) (hop : (opAt i).op = .fieldAddr 67 (.tmp (tmpAt t)) 0) (hk : kindAt c i = .tab n) (hkt : kindAt c t = .tab n) : StepOK Tryz.prog ops11 Q (lawOf c) c.R i :=
  step_plain hc i hi hn hd fun a w F hbase hl _ => by
    have h1 := (hl t ht).1
    rw [hkt] at h1
    obtain ⟨T, h2, h3⟩ := h1
    exact plain_pass (v := pt T 0) (by unfold execOp; rw [hop]; dsimp only; rw [h2, Sem.run_bind, fa67]; rfl) ht (F t) (fun b h => h) (fun b h => ((hl t ht).2 b h).1) (by rw [hk]; exact ⟨T, rfl, h3⟩)
theorem s_ldt (i t n : Nat) (hi : i < 82) (hn : i ∉ shared) (hd : tmpAt i ≠ 0) (ht : t ∈ takesL.getD i []) (hop : (opAt i).op = .load 24 (.tmp (tmpAt t))) (hk : kindAt c i = .row) (hkt : kindAt c t = .tab n) (h0 : 0 < n) (h1000 : n ≤ 1000) : StepOK Tryz.prog ops11 Q (lawOf c) c.R i :=
  step_plain hc i hi hn hd fun a w F hbase hl _ => by
    have h1 := (hl t ht).1
    rw [hkt] at h1
    obtain ⟨T, h2, h3⟩ := h1
    obtain ⟨v, F', h4, h5, h6⟩ := h3.row
    exact plain_pass (v := v) (by unfold execOp; rw [hop]; dsimp only; rw [h2, Sem.run_bind, run_load1 w T 0 24 _ v h4 Tryz.underlying24 rfl]; rfl) ht F' h6 (fun b h => ((hl t ht).2 b h).1) (by rw [hk]; exact ⟨n, h0, h1000, h5⟩)
omit hc in
/-- A call. -/
theorem plain_call {i : Nat} {F : Nat → Foot} {a : Act} {w : World} {f : FuncId} {xs : Array Operand} {ts : Array TypeId} (hf : f = 14 ∨ f = 15 ∨ f = 16 ∨ f = 17 ∨ f = 18 ∨ f = 19 ∨ f = 20) (hop : (opAt i).op = .call { callee := .value (.func f), args := xs, argTypes := ts })
    (h : Calls Tryz.prog f (xs.map a.eval) w fun e w' => ∃ (v : Value) (Fx Fx' : Foot), e = .returned v ∧ On Fx Fx' w w' ∧ (∀ b, Fx b → ∃ t, t ∈ takesL.getD i [] ∧ F t b) ∧ liveK (kindAt c i) v Fx' w' ∧ ∀ b, Fx' b → b < w'.heap.size) : (opAt i).wp Tryz.prog a w (Plain c i F a w) Q := by
  unfold Oper.wp
  rw [run_call _ a w xs ts f hf hop, Oper.upon_enter]
  refine h.mono ?_
  rintro e w' ⟨v, Fx, Fx', rfl, h1⟩
  exact ⟨v, Fx, Fx', rfl, h1⟩
theorem s_short (i t u n k : Nat) (l : List Int) (ts : Array TypeId) (hi : i < 82) (hn : i ∉ shared) (hd : tmpAt i ≠ 0) (ht : t ∈ takesL.getD i []) (hu : u ∈ takesL.getD i []) (htu : t ≠ u) (hop : (opAt i).op = .call { callee := .value (.func 16), args := #[.tmp (tmpAt t), .tmp (tmpAt u)], argTypes := ts })
    (hk : kindAt c i = .tab k) (hkt : kindAt c t = .tab n) (hku : kindAt c u = .nums l) (he : n + 2 * l.length = k) (hl20 : l.length ≤ 20) (hn9 : n ≤ 90000) (hv : ∀ x ∈ l, -1000000000000 < x ∧ x < 1000000000000) : StepOK Tryz.prog ops11 Q (lawOf c) c.R i :=
  step_plain hc i hi hn hd fun a w F hbase hl hdis => by
    have h1 := (hl t ht).1
    rw [hkt] at h1
    obtain ⟨T, h2, h3⟩ := h1
    have k1 := (hl u hu).1
    rw [hku] at k1
    obtain ⟨X, k2, k3, k4, k5⟩ := k1
    refine plain_call (Or.inr (Or.inr (Or.inl rfl))) hop ?_
    have e : (#[Operand.tmp (tmpAt t), Operand.tmp (tmpAt u)] : Array Operand).map a.eval = #[pt T 0, .slice (some ⟨X, 0, none⟩) l.length l.length] := by
      simp only [List.map_toArray, List.map_cons, List.map_nil, h2, k2]
    rw [e]
    refine (short_f T n X l.length (F t) w l rfl hl20 hv hn9 h3 k3 (fun hF => hdis t u ht hu htu X hF k4) k5).mono ?_
    rintro e w' ⟨rfl, F', h4, h5⟩
    exact ⟨_, F t, F', rfl, h5, fun b hb => ⟨t, ht, hb⟩, by rw [hk]; exact ⟨T, rfl, he ▸ h4⟩, fun b hb => (h4.lt b hb).2⟩
theorem s_long (i t n k : Nat) (x : Int) (ts : Array TypeId) (hi : i < 82) (hn : i ∉ shared) (hd : tmpAt i ≠ 0) (ht : t ∈ takesL.getD i []) (hop : (opAt i).op = .call { callee := .value (.func 17), args := #[.tmp (tmpAt t), .const (.int .i64 x)], argTypes := ts })
    (hk : kindAt c i = .tab k) (hkt : kindAt c t = .tab n) (he : n + 4 = k) (hn9 : n ≤ 90000) (hx0 : 0 ≤ x) (hx1 : x < 1000000000000) : StepOK Tryz.prog ops11 Q (lawOf c) c.R i :=
  step_plain hc i hi hn hd fun a w F hbase hl hdis => by
    have h1 := (hl t ht).1
    rw [hkt] at h1
    obtain ⟨T, h2, h3⟩ := h1
    refine plain_call (Or.inr (Or.inr (Or.inr (Or.inl rfl)))) hop ?_
    have e : (#[Operand.tmp (tmpAt t), Operand.const (.int .i64 x)] : Array Operand).map a.eval = #[pt T 0, .int .i64 x] := by
      simp only [List.map_toArray, List.map_cons, List.map_nil, h2]
      rfl
    rw [e]
    refine (long_f T n (F t) w x hx0 hx1 hn9 h3).mono ?_
    rintro e w' ⟨rfl, F', h4, h5⟩
    exact ⟨_, F t, F', rfl, h5, fun b hb => ⟨t, ht, hb⟩, by rw [hk]; exact ⟨T, rfl, he ▸ h4⟩, fun b hb => (h4.lt b hb).2⟩
/-- A call that hands back a new row of bytes and leaves all else. -/
theorem s_new (i f : Nat) (xs : Array Operand) (ts : Array TypeId) (hi : i < 82) (hn : i ∉ shared) (hd : tmpAt i ≠ 0) (hf : f = 14 ∨ f = 15 ∨ f = 16 ∨ f = 17 ∨ f = 18 ∨ f = 19 ∨ f = 20) (hop : (opAt i).op = .call { callee := .value (.func f), args := xs, argTypes := ts }) (hk : kindAt c i = .row)
    (h : ∀ (a : Act) (w : World), BaseOf c a w → (∀ t, t ∈ takesL.getD i [] → ∃ F, liveK (kindAt c t) (a.eval (.tmp (tmpAt t))) F w) → Calls Tryz.prog f (xs.map a.eval) w fun e w' => ∃ n, 0 < n ∧ n ≤ 1000 ∧ NewBytes n w e w') : StepOK Tryz.prog ops11 Q (lawOf c) c.R i :=
  step_plain hc i hi hn hd fun a w F hbase hl _ => by
    refine plain_call hf hop ((h a w hbase (fun t ht => ⟨_, (hl t ht).1⟩)).mono ?_)
    rintro e w' ⟨n, h0, h1, ⟨v, rfl, hv⟩, hb⟩
    obtain ⟨F', k1, k2, k3⟩ := rowf_of_new hv hb (Nat.le_refl _)
    exact ⟨v, fun _ => False, F', rfl, k3, fun b hb => hb.elim, by rw [hk]; exact ⟨n, h0, h1, k1⟩, fun b hb => k1.lt b hb⟩
end
end Go.Proofs.YtgggpllmgnpngaaGreatDoor.Tb
