/- Whether a file can be written: its numbers gathered, in whatever order. -/
import Derived.Test.YtgggpllmgnpngaaGreatDoorTbCats
import Derived.Laws.AppendOwnNone
namespace Go.Proofs.YtgggpllmgnpngaaGreatDoor.Tb.F5
open Go Go.RowKit Go.Proofs.YtgggpllmgnpngaaGreatDoor.Tb

structure Ctx where
  B : Nat
  F : Nat
  G : Nat
  k : Nat
  cap : Nat
  M : Nat → Int
  b7 : Bool
  b16 : Bool
  b17 : Bool
  w0 : World
structure Ctx.Ok (c : Ctx) : Prop where
  file : FileR c.M c.b7 c.b16 c.b17 c.F c.G c.k c.cap c.w0
  base : c.w0.heap.size = c.B

noncomputable def ops5 : Array Oper := match Tryz.f13.body with | some b => (regionOf 5 b).getD #[] | none => #[]
theorem ops5_size : ops5.size = 93 := by kernel_rfl
def kinds (c : Ctx) : List Kind := [.val (pt c.F 0), .val (pt c.F 0), .val (pt c.F 1), .val (vi (c.M 1)), .val (pt c.F 0), .val (pt c.F 0), .val (pt c.F 2), .val (vi (c.M 2)), .val (pt c.F 0), .val (pt c.F 0), .val (pt c.F 3), .val (vi (c.M 3)), .val (pt c.F 0), .val (pt c.F 0), .val (pt c.F 4), .val (vi (c.M 4)), .val (pt c.F 0), .val (pt c.F 0), .val (pt c.F 5), .val (vi (c.M 5)), .val (pt c.F 0), .val (pt c.F 0), .val (pt c.F 6), .val (vi (c.M 6)), .val (pt c.F 0), .val (pt c.F 0), .val (pt c.F 8), .val (vi (c.M 8)), .val (pt c.F 0), .val (pt c.F 0), .val (pt c.F 9), .val (vi (c.M 9)), .val (pt c.F 0), .val (pt c.F 0), .val (pt c.F 10), .val (vi (c.M 10)), .val (pt c.F 0), .val (pt c.F 0), .val (pt c.F 11), .val (vi (c.M 11)), .val (pt c.F 0), .val (pt c.F 0), .val (pt c.F 12), .val (vi (c.M 12)), .val (pt c.F 0), .val (pt c.F 0), .val (pt c.F 13), .val (vi (c.M 13)), .val (pt c.F 0), .val (pt c.F 0), .val (pt c.F 18), .val (vi (c.M 18)), .val (pt c.F 0), .val (pt c.F 0), .val (pt c.F 19), .val (vi (c.M 19)), .val (pt c.F 0), .val (pt c.F 0), .val (pt c.F 20), .val (vi (c.M 20)), .val (pt c.F 0), .val (pt c.F 0), .val (pt c.F 21), .val (vi (c.M 21)), .val (pt c.F 0), .val (pt c.F 0), .val (pt c.F 22), .val (vi (c.M 22)), .val (pt c.F 0), .val (pt c.F 0), .val (pt c.F 23), .val (vi (c.M 23)), .val (pt c.F 0), .val (pt c.F 0), .val (pt c.F 24), .val (vi (c.M 24)), .val (pt c.F 0), .val (pt c.F 0), .val (pt c.F 25), .val (vi (c.M 25)), .ints 20, .val (pt c.F 0), .val (pt c.F 0), .val (pt c.F 28), .val (.slice (some ⟨c.G, 0, none⟩) c.k c.cap), .ints (20 + c.k), .val (pt c.F 0), .val (pt c.F 0), .val (pt c.F 30), .val vnil, .ints (20 + c.k), .val (vi ((20 + c.k : Nat) : Int)), .val (vi 0)]
def tmpL : List Nat := [102, 103, 104, 105, 106, 107, 108, 109, 110, 111, 112, 113, 114, 115, 116, 117, 118, 119, 120, 121, 122, 123, 124, 125, 126, 127, 128, 129, 130, 131, 132, 133, 134, 135, 136, 137, 138, 139, 140, 141, 142, 143, 144, 145, 146, 147, 148, 149, 150, 151, 152, 153, 154, 155, 156, 157, 158, 159, 160, 161, 162, 163, 164, 165, 166, 167, 168, 169, 170, 171, 172, 173, 174, 175, 176, 177, 178, 179, 180, 181, 182, 183, 184, 185, 186, 187, 188, 189, 190, 191, 192, 193, 194]
def takesL : List (List Nat) := [[], [0], [1], [2], [], [4], [5], [6], [], [8], [9], [10], [], [12], [13], [14], [], [16], [17], [18], [], [20], [21], [22], [], [24], [25], [26], [], [28], [29], [30], [], [32], [33], [34], [], [36], [37], [38], [], [40], [41], [42], [], [44], [45], [46], [], [48], [49], [50], [], [52], [53], [54], [], [56], [57], [58], [], [60], [61], [62], [], [64], [65], [66], [], [68], [69], [70], [], [72], [73], [74], [], [76], [77], [78], [3, 7, 11, 15, 19, 23, 27, 31, 35, 39, 43, 47, 51, 55, 59, 63, 67, 71, 75, 79], [], [81], [82], [83], [80, 84], [], [86], [87], [88], [85, 89], [], []]
def shared : List Nat := [90]
abbrev tmpAt (i : Nat) : Nat := tmpL.getD i 0
noncomputable abbrev opAt (i : Nat) : Oper := ops5.getD i default
theorem dst_is : ∀ i, i < 93 → (opAt i).dst = (if tmpAt i = 0 then none else some (tmpAt i)) ∧ (opAt i).guard = none := by
  have h : (List.range 93).all (fun i => (opAt i).dst == (if tmpAt i = 0 then none else some (tmpAt i)) && (opAt i).guard.isNone) = true := by kernel_rfl
  intro i hi
  have := List.all_eq_true.1 h i (List.mem_range.2 hi)
  simpa using this
theorem tmp_lt : ∀ i, tmpAt i < 249 := by
  intro i
  by_cases hi : i < 93
  · have h : ∀ i, i < 93 → tmpAt i < 249 := by decide +kernel
    exact h i hi
  · have h : tmpAt i = 0 := by
      show tmpL.getD i 0 = 0
      rw [List.getD_eq_getElem?_getD, List.getElem?_eq_none (by show 93 ≤ i; omega)]
      rfl
    omega
theorem tmp_ne : ∀ i j, i < 93 → j < 93 → i ≠ j → tmpAt i ≠ 0 → tmpAt i ≠ tmpAt j := by
  have h : ∀ i, i < 93 → ∀ j, j < 93 → i ≠ j → tmpAt i ≠ 0 → tmpAt i ≠ tmpAt j := by decide +kernel
  exact fun i j hi hj => h i hi j hj
theorem tmp_far : ∀ i, i < 93 → tmpAt i ≠ 0 ∧ tmpAt i ≠ 4 ∧ tmpAt i ≠ 2 := by decide +kernel
theorem takes_lt {i t : Nat} (h : t ∈ takesL.getD i []) : i < 93 := by
  rcases Nat.lt_or_ge i 93 with h' | h'
  · exact h'
  · rw [List.getD_eq_getElem?_getD, List.getElem?_eq_none (by show 93 ≤ i; omega)] at h
    simp at h

structure BaseOf (c : Ctx) (a : Act) (w : World) : Prop where
  size : a.tmps.size = 249
  defers : a.defers = []
  t0 : a.eval (.tmp 0) = pt c.F 0
  t4 : a.eval (.tmp 4) = pt c.F 0
  t2 : a.eval (.tmp 2) = .bool false
  below : Below c.w0.heap.size c.w0 w
structure ShOf (c : Ctx) (listed : Array Bool) (a : Act) (M : Foot) (_w : World) : Prop where
  len : listed.getD 90 false = true → ∃ A cp, a.eval (.tmp 192) = .slice A (20 + c.k) cp
  mine : ∀ b, ¬ M b
abbrev kindAt (c : Ctx) (i : Nat) : Kind := (kinds c).getD i .non
def lawOf (c : Ctx) : Law where
  takes i := takesL.getD i []
  live j a F w := liveK (kindAt c j) (a.eval (.tmp (tmpAt j))) F w
  sh := ShOf c
  base := BaseOf c

theorem at_of {i : Nat} {o : Oper} (h : ops5[i]? = some o) : i < 93 ∧ opAt i = o := by
  obtain ⟨h1, h2⟩ := Array.getElem?_eq_some_iff.1 h
  rw [ops5_size] at h1
  exact ⟨h1, by show ops5.getD i default = o; rw [Array.getD_eq_getD_getElem?, h]; rfl⟩

theorem lawOf_tidy (c : Ctx) : Tidy ops5 (lawOf c) where
  one := by
    have h : ∀ i, i < 93 → ∀ k, k < 93 → ∀ t ∈ takesL.getD i [], t ∈ takesL.getD k [] → i = k := by decide +kernel
    exact fun i k t h1 h2 => h i (takes_lt h1) k (takes_lt h2) t h1 h2
  waits := by
    have h : (List.range 93).all (fun i => (takesL.getD i []).all fun t => (opAt i).after.any fun e => Region.binds .any e && (e.on == t)) = true := by kernel_rfl
    intro i o t ho ht
    obtain ⟨hi, hoo⟩ := at_of ho
    have h1 := List.all_eq_true.1 h i (List.mem_range.2 hi)
    have h2 := List.all_eq_true.1 h1 t ht
    rw [hoo] at h2
    obtain ⟨e, he, h3⟩ := Array.any_eq_true'.1 h2
    simp at h3
    exact ⟨e, he, h3.1, h3.2⟩

theorem dst_ne {i t : Nat} (hi : i < 93) (h : tmpAt i ≠ t ∨ t = 0) : (opAt i).dst ≠ some t := by
  rw [(dst_is i hi).1]
  by_cases h0 : tmpAt i = 0
  · rw [if_pos h0]; simp
  · rw [if_neg h0]
    intro e
    injection e with e
    rcases h with h | h
    · exact h e
    · exact h0 (e.trans h)

theorem BaseOf.put {c : Ctx} {a : Act} {w w' : World} {i : Nat} {v : Value} (h : BaseOf c a w) (hi : i < 93) (hb : Below c.w0.heap.size c.w0 w') : BaseOf c (a.put (opAt i).dst v) w' := by
  have f := tmp_far i hi
  refine ⟨by rw [put_size]; exact h.size, by rw [put_defers]; exact h.defers, ?_, ?_, ?_, hb⟩
  · rw [eval_put_far _ _ _ _ (dst_ne hi (Or.inl f.1))]; exact h.t0
  · rw [eval_put_far _ _ _ _ (dst_ne hi (Or.inl f.2.1))]; exact h.t4
  · rw [eval_put_far _ _ _ _ (dst_ne hi (Or.inl f.2.2))]; exact h.t2

theorem lawOf_stable (c : Ctx) : Stable ops5 (lawOf c) := by
  intro i j o listed a F w w' v ho hi hj hl hs hb
  obtain ⟨hi93, rfl⟩ := at_of ho
  have hne : i ≠ j := fun e => by
    subst e
    rw [getD_both' hi] at hj
    cases hj
  show liveK (kindAt c j) ((a.put (opAt i).dst v).eval (.tmp (tmpAt j))) F w'
  have hl' : liveK (kindAt c j) (a.eval (.tmp (tmpAt j))) F w' := liveK.keep hl hs hb
  by_cases hj93 : j < 93
  · have : (opAt i).dst ≠ some (tmpAt j) := by
      by_cases h0 : tmpAt j = 0
      · exact dst_ne hi93 (Or.inr h0)
      · exact dst_ne hi93 (Or.inl (fun e => tmp_ne j i hj93 hi93 (Ne.symm hne) h0 e.symm))
    rw [eval_put_far _ _ _ _ this]
    exact hl'
  · have : kindAt c j = .non := by
      show (kinds c).getD j .non = .non
      rw [List.getD_eq_getElem?_getD, List.getElem?_eq_none (by show 93 ≤ j; omega)]
      rfl
    rw [this]
    trivial

/-- When nothing is ready all are listed. -/
theorem all_listed {listed : Array Bool} (hs : listed.size = 93) (hr : Region.ready .any ops5 listed = []) : ∀ i, i < 93 → listed.getD i false = true := by
  have hback : (List.range 93).all (fun i => (opAt i).after.all fun e => !Region.binds .any e || decide (e.on < i)) = true := by kernel_rfl
  intro i
  induction i using Nat.strongRecOn with
  | _ i ih =>
    intro hi
    cases hl : listed.getD i true with
    | true =>
      have : listed[i]? = some true := by
        rw [Array.getD_eq_getD_getElem?, Array.getElem?_eq_getElem (by omega)] at hl
        rw [Array.getElem?_eq_getElem (by omega)]
        simpa using hl
      rw [Array.getD_eq_getD_getElem?, this]; rfl
    | false =>
      exfalso
      have ho : ops5[i]? = some (opAt i) := by
        show ops5[i]? = some (ops5.getD i default)
        rw [Array.getD_eq_getD_getElem?, Array.getElem?_eq_getElem (by rw [ops5_size]; exact hi)]
        rfl
      have hm : i ∈ Region.ready .any ops5 listed := mem_ready.2 ⟨hl, opAt i, ho, fun e he hb => by
        have h1 := List.all_eq_true.1 hback i (List.mem_range.2 hi)
        have h2 := Array.all_eq_true'.1 h1 e he
        simp [hb] at h2
        exact ih e.on h2 (by omega)⟩
      rw [hr] at hm
      cases hm
theorem tmp_shared : ∀ i, i < 93 → i ∉ shared → tmpAt i ≠ 192 := by decide +kernel
theorem ShOf.keep {c : Ctx} {listed : Array Bool} {a : Act} {M : Foot} {w w' : World} {i : Nat} {v : Value} (h : ShOf c listed a M w) (hi : i < 93) (hn : i ∉ shared) (_hb : ∀ b, M b → w'.heap[b]? = w.heap[b]?) :
    ShOf c (listed.setIfInBounds i true) (a.put (opAt i).dst v) M w' := by
  have hne : 90 ≠ i := fun e => hn (by rw [← e]; decide)
  refine ⟨fun h90 => ?_, h.mine⟩
  rw [eval_put_far _ _ _ _ (dst_ne hi (Or.inl (tmp_shared i hi hn)))]
  exact h.len (by rw [← set_other hne]; exact h90)

/-- What a plain operation does. -/
def Plain (c : Ctx) (i : Nat) (F : Nat → Foot) (a : Act) (w : World) (a' : Act) (w' : World) : Prop :=
  ∃ (v : Value) (Fx Fx' : Foot), a' = a.put (opAt i).dst v ∧ On Fx Fx' w w' ∧ (∀ b, Fx b → ∃ t, t ∈ takesL.getD i [] ∧ F t b) ∧ liveK (kindAt c i) v Fx' w' ∧ ∀ b, Fx' b → b < w'.heap.size

theorem below_on {c : Ctx} {w w' : World} {Fx Fx' : Foot} (h : Below c.w0.heap.size c.w0 w) (hon : On Fx Fx' w w') (hf : ∀ b, Fx b → c.w0.heap.size ≤ b) : Below c.w0.heap.size c.w0 w' :=
  ⟨hon.os.trans h.os, hon.tape.trans h.tape, hon.output.trans h.output, Nat.le_trans h.size hon.size, fun q hq => (hon.block q (Nat.lt_of_lt_of_le hq h.size) (fun hF => by have := hf q hF; omega)).trans (h.block q hq)⟩

theorem step_plain {c : Ctx} (hc : c.Ok) {Q : Exit → Act → World → Prop} (i : Nat) (hi : i < 93) (hn : i ∉ shared) (hd : tmpAt i ≠ 0)
    (h : ∀ (a : Act) (w : World) (F : Nat → Foot), BaseOf c a w → (∀ t, t ∈ takesL.getD i [] → liveK (kindAt c t) (a.eval (.tmp (tmpAt t))) (F t) w ∧ ∀ b, F t b → b < w.heap.size ∧ c.B ≤ b) →
      (∀ t k, t ∈ takesL.getD i [] → k ∈ takesL.getD i [] → t ≠ k → ∀ b, F t b → ¬ F k b) → (opAt i).wp Tryz.prog a w (Plain c i F a w) Q) :
    StepOK Tryz.prog ops5 Q (lawOf c) c.B i := by
  intro o listed a w F M ho hun hall hb hB hsh hM hlive hdis
  obtain ⟨_, rfl⟩ := at_of ho
  refine wpOp_of ho (dst_is i hi).2 (Oper.wp_mono ?_ (h a w F hb (fun t ht => ⟨(hlive t ht).1, fun b hb2 => ⟨((hlive t ht).2 b hb2).1, ((hlive t ht).2 b hb2).2.1⟩⟩) hdis))
  rintro a' w' ⟨v, Fx, Fx', rfl, hon, hFx, hl, hlt⟩
  have hFxM : ∀ b, Fx b → c.B ≤ b ∧ ¬ M b := fun b hb2 => by
    obtain ⟨t, ht, hF⟩ := hFx b hb2
    exact ⟨((hlive t ht).2 b hF).2.1, ((hlive t ht).2 b hF).2.2⟩
  have hkeep : ∀ b, M b → w'.heap[b]? = w.heap[b]? := fun b hb2 => hon.block b (hM b hb2).2 (fun hF => (hFxM b hF).2 hb2)
  have hbelow := below_on hb.below hon (fun b hb2 => by rw [hc.base]; exact (hFxM b hb2).1)
  have hsz := hon.size
  refine ⟨v, Fx', M, rfl, hb.put hi hbelow, hsh.keep hi hn hkeep, ?_, hsz, fun b hb2 => ?_, fun b hb2 => ⟨Nat.lt_of_lt_of_le (hM b hb2).2 hsz, (hM b hb2).1, Or.inl hb2⟩, fun b hlt2 hnM hnF => hon.block b hlt2 (fun hF => by
      obtain ⟨t, ht, hF2⟩ := hFx b hF
      exact hnF t ht hF2)⟩
  · show liveK (kindAt c i) ((a.put (opAt i).dst v).eval (.tmp (tmpAt i))) Fx' w'
    rw [(dst_is i hi).1, if_neg hd, eval_put_same _ _ _ (by rw [hb.size]; exact tmp_lt i)]
    exact hl
  · refine ⟨hlt b hb2, ?_⟩
    rcases hon.foot b hb2 with h1 | h1
    · obtain ⟨t, ht, hF⟩ := hFx b h1
      exact ⟨(hFxM b h1).1, (hFxM b h1).2, Or.inr ⟨t, ht, hF⟩⟩
    · exact ⟨Nat.le_trans hB h1, fun hm => by have := (hM b hm).2; omega, Or.inl h1⟩

theorem plain_val {c : Ctx} {i : Nat} {F : Nat → Foot} {a : Act} {w : World} {Q : Exit → Act → World → Prop} {v : Value} (hr : (execOp a.eval (opAt i)).run Tryz.prog w = .ok (.value v) w) (hk : kindAt c i = .val v) :
    (opAt i).wp Tryz.prog a w (Plain c i F a w) Q := by
  unfold Oper.wp
  rw [hr]
  exact ⟨v, fun _ => False, fun _ => False, rfl, on_same _ w, fun b h => h.elim, by rw [hk]; rfl, fun b h => h.elim⟩
theorem plain_pass {c : Ctx} {i t : Nat} {F : Nat → Foot} {a : Act} {w : World} {Q : Exit → Act → World → Prop} {v : Value} (hr : (execOp a.eval (opAt i)).run Tryz.prog w = .ok (.value v) w) (ht : t ∈ takesL.getD i []) (Fx : Foot) (hF : ∀ b, Fx b → F t b) (hlt : ∀ b, F t b → b < w.heap.size) (hk : liveK (kindAt c i) v Fx w) :
    (opAt i).wp Tryz.prog a w (Plain c i F a w) Q := by
  unfold Oper.wp
  rw [hr]
  exact ⟨v, Fx, Fx, rfl, on_same _ w, fun b h => ⟨t, ht, hF b h⟩, hk, fun b h => hlt b (hF b h)⟩
section
variable {c : Ctx} (hc : c.Ok) {Q : Exit → Act → World → Prop}
include hc
theorem s_move (i : Nat) (hi : i < 93) (hn : i ∉ shared) (hd : tmpAt i ≠ 0) (s : Nat) (v : Value) (hop : (opAt i).op = .move (.tmp s)) (hk : kindAt c i = .val v) (hb : ∀ a w, BaseOf c a w → a.eval (.tmp s) = v) : StepOK Tryz.prog ops5 Q (lawOf c) c.B i :=
  step_plain hc i hi hn hd fun a w F hbase _ _ => plain_val (by unfold execOp; rw [hop]; dsimp only; rw [hb a w hbase]; rfl) hk
theorem s_nilv (i t : Nat) (hi : i < 93) (hn : i ∉ shared) (hd : tmpAt i ≠ 0) (ht : t ∈ takesL.getD i []) (b o : Nat) (hop : (opAt i).op = .nilCheck (.tmp (tmpAt t))) (hk : kindAt c i = .val (pt b o)) (hkt : kindAt c t = .val (pt b o)) : StepOK Tryz.prog ops5 Q (lawOf c) c.B i :=
  step_plain hc i hi hn hd fun a w F hbase hl _ => plain_val (by
    have h1 := (hl t ht).1
    rw [hkt] at h1
    unfold execOp; rw [hop]; dsimp only
    rw [show a.eval (.tmp (tmpAt t)) = pt b o from h1]; rfl) hk
theorem s_fav (i t : Nat) (hi : i < 93) (hn : i ∉ shared) (hd : tmpAt i ≠ 0) (ht : t ∈ takesL.getD i []) (b o st f : Nat) (hop : (opAt i).op = .fieldAddr st (.tmp (tmpAt t)) f) (hk : kindAt c i = .val (pt b o)) (hkt : kindAt c t = .val (pt b 0)) (hr : ∀ w, (Instr.fieldAt st (pt b 0) f).run Tryz.prog w = .ok (pt b o) w) : StepOK Tryz.prog ops5 Q (lawOf c) c.B i :=
  step_plain hc i hi hn hd fun a w F hbase hl _ => plain_val (by
    have h1 := (hl t ht).1
    rw [hkt] at h1
    unfold execOp; rw [hop]; dsimp only
    rw [show a.eval (.tmp (tmpAt t)) = pt b 0 from h1, Sem.run_bind, hr]; rfl) hk
theorem s_ldv (i t : Nat) (hi : i < 93) (hn : i ∉ shared) (hd : tmpAt i ≠ 0) (ht : t ∈ takesL.getD i []) (o ty : Nat) (d : TypeDesc) (v : Value) (hop : (opAt i).op = .load ty (.tmp (tmpAt t))) (hk : kindAt c i = .val v) (hkt : kindAt c t = .val (pt c.F o)) (hcell : (fileCells c.M c.b7 c.b16 c.b17 (.slice (some ⟨c.G, 0, none⟩) c.k c.cap) (.int .i64 1))[o]? = some v) (hu : Tryz.prog.underlying ty = some d) (hdd : (match d with | .struct _ | .array _ _ => true | _ => false) = false) : StepOK Tryz.prog ops5 Q (lawOf c) c.B i :=
  step_plain hc i hi hn hd fun a w F hbase hl _ => plain_val (by
    have h1 := (hl t ht).1
    rw [hkt] at h1
    unfold execOp; rw [hop]; dsimp only
    rw [show a.eval (.tmp (tmpAt t)) = pt c.F o from h1, Sem.run_bind, run_load1 w c.F o ty d v (below_cell hbase.below (hc.file.cells o v hcell)) hu hdd]; rfl) hk
theorem s_bs (i : Nat) (hi : i < 93) (hn : i ∉ shared) (hd : tmpAt i ≠ 0) (m : Nat) (l : List Int) (parts : Array (Nat × Operand)) (hop : (opAt i).op = .buildSlice 29 m parts) (hk : kindAt c i = .nums l) (hm : l.length = m)
    (hr : ∀ a w, BaseOf c a w → (∀ t, t ∈ takesL.getD i [] → ∃ F, liveK (kindAt c t) (a.eval (.tmp (tmpAt t))) F w) → (Instr.buildSlice 29 m (parts.map fun (i, x) => (i, a.eval x))).run Tryz.prog w = .ok (.slice (some ⟨w.heap.size, 0, none⟩) m m) (w.alloc (.cells (l.map fun x => Value.int .i64 x).toArray 3))) : StepOK Tryz.prog ops5 Q (lawOf c) c.B i :=
  step_plain hc i hi hn hd fun a w F hbase hl _ => by
    have hr' : (execOp a.eval (opAt i)).run Tryz.prog w = .ok (.value (.slice (some ⟨w.heap.size, 0, none⟩) m m)) (w.alloc (.cells (l.map fun x => Value.int .i64 x).toArray 3)) := by
      unfold execOp; rw [hop]; dsimp only
      rw [Sem.run_bind, hr a w hbase (fun t ht => ⟨_, (hl t ht).1⟩)]; rfl
    unfold Oper.wp
    rw [hr']
    have hcell : ∀ (j : Nat) (x : Int), l[j]? = some x → (w.alloc (.cells (l.map fun x => Value.int .i64 x).toArray 3)).cell? ⟨w.heap.size, j, none⟩ = some (.int .i64 x) := fun j x hx => by
      rw [cell_in (heap_alloc_new w _)]
      simp [hx]
    exact ⟨_, fun _ => False, fun b => b = w.heap.size, rfl, on_alloc w _, fun b h => h.elim, by rw [hk]; exact ⟨_, by rw [hm], by rw [World.size_alloc]; omega, rfl, hcell⟩, fun b h => by rw [World.size_alloc]; omega⟩
end
end Go.Proofs.YtgggpllmgnpngaaGreatDoor.Tb.F5
