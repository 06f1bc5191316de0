/- The region of the map's literal: the operations that touch what is shared. -/
import Derived.Test.YtgggpllmgnpngaaGreatDoorTbCats
namespace Go.Proofs.YtgggpllmgnpngaaGreatDoor.Tb
open Go Go.RowKit
open Go.Maps (Keyed)

theorem filter_more {l : List Nat} (hn : l.Nodup) {p q : Nat → Bool} {i : Nat} (hi : i ∈ l) (hp : p i = false) (hqi : q i = true) (hq : ∀ j, j ≠ i → q j = p j) : (l.filter q).Perm (i :: l.filter p) := by
  induction l with
  | nil => cases hi
  | cons x t ih =>
    obtain ⟨h1, h2⟩ := List.nodup_cons.1 hn
    by_cases e : x = i
    · subst e
      have hf : t.filter q = t.filter p := List.filter_congr fun j hj => hq j (fun e => h1 (e ▸ hj))
      simp [hp, hqi, hf]
    · have hit : i ∈ t := by
        rcases List.mem_cons.1 hi with h | h
        · exact absurd h.symm e
        · exact h
      have ih' := ih h2 hit
      have hx := hq x e
      cases hpx : p x with
      | true =>
        rw [hpx] at hx
        simp only [List.filter_cons, hpx, hx, if_true]
        exact (List.Perm.cons x ih').trans (List.Perm.swap i x _)
      | false =>
        rw [hpx] at hx
        simpa [List.filter_cons, hpx, hx] using ih'

theorem getD_lt {listed : Array Bool} {i : Nat} (h : listed.getD i true = false) : (listed.setIfInBounds i true).getD i false = true := (set_at h i).2 (Or.inl rfl)

section
variable {c : Ctx} (hc : c.Ok) {Q : Exit → Act → World → Prop}
include hc
omit hc in
theorem s_make : StepOK Tryz.prog ops11 Q (lawOf c) c.R 0 := by
  intro o listed a w F M ho hun hall hb hB hsh hM hlive hdis
  obtain ⟨hi, rfl⟩ := at_of ho
  refine wpOp_of ho (dst_is 0 hi).2 ?_
  have hop : (opAt 0).op = .makeMap 33 none := by kernel_rfl
  have hdst : (opAt 0).dst = some 39 := by kernel_rfl
  have hr : (execOp a.eval (opAt 0)).run Tryz.prog w = .ok (.value (.map (some w.heap.size))) (w.alloc (.map #[] 0)) := by
    unfold execOp; rw [hop]; dsimp only
    rw [Sem.run_bind, show (Option.map a.eval none) = none from rfl, run_makeMap]; rfl
  unfold Oper.wp
  rw [hr]
  have hsz : (w.alloc (.map #[] 0)).heap.size = w.heap.size + 1 := World.size_alloc _ _
  have hblk : ∀ b, b < w.heap.size → (w.alloc (.map #[] 0)).heap[b]? = w.heap[b]? := fun b hb => Below.heap_alloc _ _ _ hb
  obtain ⟨n1, n2, n3⟩ := hsh.none (getD_both' hun)
  have hRb := (hM c.R hsh.mine)
  have hRk := hblk c.R hRb.2
  refine ⟨_, fun _ => False, fun b => M b ∨ b = w.heap.size, rfl, hb.put hi ?_, ?_, ?_, by rw [hsz]; omega, fun b h => h.elim, fun b h => ?_, fun b hlt _ _ => hblk b hlt⟩
  · exact hb.below.alloc hb.below.size _
  · refine ⟨fun h5 => (hsh.fresh (by rw [← set_other (i := 0) (show 5 ≠ 0 by decide)]; exact h5)).block hRk, ?_, Or.inl hsh.mine, fun h0 => ?_, fun _ => ⟨w.heap.size, ?_, fun h => ?_, fun h => ?_, fun _ => 1, fun b => b = w.heap.size, ?_, ?_, fun b h => ⟨Or.inr h, by omega⟩⟩⟩
    · obtain ⟨q, h1, h2⟩ := hsh.writer
      exact ⟨q, h1, h2.block hRk⟩
    · rw [getD_lt hun] at h0; cases h0
    · rw [hdst, eval_put_same _ _ _ (by rw [hb.size]; decide)]
    · rw [set_other (show 80 ≠ 0 by decide), n2] at h; cases h
    · rw [set_other (show 81 ≠ 0 by decide), n3] at h; cases h
    · rw [Sof_other (by decide), n1]; simp
    · rw [Sof_other (by decide), n1]
      exact ⟨.map [], fun _ => undef, 0, World.ownsMap_made w Tryz.prog 9 hv, Nat.zero_le _, MapIs.nil _ _, by simp, by simp, rfl⟩
  · exact trivial
  · rcases h with h | h
    · have := hM b h; exact ⟨by omega, this.1, Or.inl h⟩
    · exact ⟨by omega, by omega, Or.inr (Or.inl (by omega))⟩

theorem s_cmap : StepOK Tryz.prog ops11 Q (lawOf c) c.R 5 := by
  intro o listed a w F M ho hun hall hb hB hsh hM hlive hdis
  obtain ⟨hi, rfl⟩ := at_of ho
  refine wpOp_of ho (dst_is 5 hi).2 ?_
  have hdst : (opAt 5).dst = some 44 := by kernel_rfl
  have e2 : a.eval (.tmp 41) = pt c.R 0 := (hlive 2 (by show 2 ∈ [2, 4]; decide)).1
  have e4 : a.eval (.tmp 43) = vnil := (hlive 4 (by show 4 ∈ [2, 4]; decide)).1
  unfold Oper.wp
  rw [run_call _ a w _ _ 15 (Or.inr (Or.inl rfl)) op_5, Oper.upon_enter]
  have e : (#[Operand.tmp 41, Operand.tmp 43] : Array Operand).map a.eval = #[pt c.R 0, vnil] := by
    simp only [List.map_toArray, List.map_cons, List.map_nil, e2, e4]
  rw [e]
  refine (cmap_any c.R c.A3 c.n3 c.c3 w hc.n3 (hsh.fresh (getD_both' hun)) (old_u8 hc.ways hb.below)).mono ?_
  rintro e w' ⟨T, X, m, rfl, h0, h24, ⟨F', hF', hF2⟩, hw, hk⟩
  have hRb := hM c.R hsh.mine
  refine ⟨_, F', M, rfl, hb.put hi ?_, ?_, ?_, hk.size, fun b h => ⟨hF'.lt b h, Nat.le_trans hB (hF2 b h), fun hm => by have := (hM b hm).2; have := hF2 b h; omega, Or.inl (hF2 b h)⟩, fun b h => ⟨Nat.lt_of_lt_of_le (hM b h).2 hk.size, (hM b h).1, Or.inl h⟩, fun b hlt hnM _ => hk.block b hlt (fun e => hnM (e ▸ hsh.mine))⟩
  · exact hk.below hb.below hb.below.size (fun q hq e => by have := hc.base; omega)
  · refine ⟨fun h5 => ?_, hw, hsh.mine, fun h0 => ?_, fun h0 => ?_⟩
    · rw [getD_lt hun] at h5; cases h5
    · rw [Sof_other (by decide), set_other (show 80 ≠ 5 by decide), set_other (show 81 ≠ 5 by decide)]
      exact hsh.none (by rw [← set_other (i := 5) (show 0 ≠ 5 by decide)]; exact h0)
    · obtain ⟨m, h1, h2, h3, len, Fm, h4, h5, h6⟩ := hsh.map (by rw [← set_other (i := 5) (show 0 ≠ 5 by decide)]; exact h0)
      refine ⟨m, ?_, fun h80 => ?_, fun h81 => ?_, len, Fm, by rw [Sof_other (by decide)]; exact h4, by rw [Sof_other (by decide)]; exact h5.keep (fun b hb2 => hk.block b (hM b (h6 b hb2).1).2 (h6 b hb2).2), h6⟩
      · rw [eval_put_far _ _ _ _ (by rw [hdst]; decide)]; exact h1
      · rw [eval_put_far _ _ _ _ (by rw [hdst]; decide)]; exact h2 (by rw [← set_other (i := 5) (show 80 ≠ 5 by decide)]; exact h80)
      · rw [eval_put_far _ _ _ _ (by rw [hdst]; decide)]; exact h3 (by rw [← set_other (i := 5) (show 81 ≠ 5 by decide)]; exact h81)
  · show ∃ T X m, (a.put (opAt 5).dst _).eval (.tmp 44) = pt T 0 ∧ 0 < m ∧ m ≤ 24 ∧ LinkG T X m F' w'
    exact ⟨T, X, m, by rw [hdst, eval_put_same _ _ _ (by rw [hb.size]; decide)], h0, h24, hF'⟩

omit hc in
theorem after_of {listed : Array Bool} {i k : Nat} (hall : ∀ e ∈ (opAt i).after, Region.binds .any e = true → listed.getD e.on false = true) (h : ((opAt i).after.any fun e => Region.binds .any e && (e.on == k)) = true) : listed.getD k false = true := by
  obtain ⟨e, he, h3⟩ := Array.any_eq_true'.1 h
  simp at h3
  rw [← h3.2]
  exact hall e he h3.1

/-- An insert. -/
theorem s_ins (i t j : Nat) (s : ByteArray) (hj : j ∈ insL) (hij : insOf j = i) (ht : takesL.getD i [] = [t]) (hop : (opAt i).op = .insert 33 (.tmp 39) (.const (.string s)) (.tmp (tmpAt t))) (hs : s = tag j) (hk : kindAt c t = .row) (hki : kindAt c i = .non) (htm : tmpAt i = 0)
    (hafter : ((opAt i).after.any fun e => Region.binds .any e && (e.on == 0)) = true) (h05 : i ≠ 0 ∧ i ≠ 5 ∧ i ≠ 80 ∧ i ≠ 81) : StepOK Tryz.prog ops11 Q (lawOf c) c.R i := by
  intro o listed a w F M ho hun hall hb hB hsh hM hlive hdis
  obtain ⟨hi, rfl⟩ := at_of ho
  refine wpOp_of ho (dst_is i hi).2 ?_
  have hdst : (opAt i).dst = none := by rw [(dst_is i hi).1, if_pos htm]
  have htk : t ∈ takesL.getD i [] := by rw [ht]; exact List.mem_singleton.2 rfl
  have hlt := hlive t htk
  have hl1 : liveK (kindAt c t) (a.eval (.tmp (tmpAt t))) (F t) w := hlt.1
  rw [hk] at hl1
  obtain ⟨k, k0, k1, hrow⟩ := hl1
  have h0 : listed.getD 0 false = true := after_of hall hafter
  obtain ⟨m, m1, m2, m3, len, Fm, m4, ⟨D, val, n, q1, q2, q3, q4, q5, q6⟩, m6⟩ := hsh.map h0
  have hj8 : j < 8 := by have : ∀ j ∈ insL, j < 8 := by decide
                         exact this j hj
  have hjS : j ∉ Sof listed := fun h => by
    have := (List.mem_filter.1 h).2
    rw [hij, getD_both' hun] at this
    cases this
  have hS7 : (Sof listed).length ≤ 7 := List.length_filter_le _ insL
  obtain ⟨v, hv'⟩ : ∃ v, v = a.eval (.tmp (tmpAt t)) := ⟨_, rfl⟩
  rw [← hv'] at hrow
  obtain ⟨w', hrun, r1, r2⟩ := q1.update (R := hv) (Maps.string_keyed Tryz.underlying9) Tryz.underlying33 (by unfold maxLen; omega) (kstr_of j hj8) (show hv v = some (.held v, []) from rfl)
  have hr : (execOp a.eval (opAt i)).run Tryz.prog w = .ok .skip w' := by
    unfold execOp
    rw [hop]
    dsimp only
    rw [m1, ← hv', show a.eval (.const (.string s)) = .string s from rfl, hs, Sem.run_bind, hrun]
    rfl
  unfold Oper.wp
  rw [hr, Oper.upon_skip]
  have hvm : v.ownBlock ≠ some m := by
    obtain ⟨bs, _, _, h3, _⟩ := hrow
    exact row_no_map (k := 9) h3 q1
  have hvals : ∀ i ∈ Sof listed, (val i).ownBlock ≠ some m := fun i hi => by
    obtain ⟨_, G, bs, _, _, h3, _⟩ := q4 i hi
    exact row_no_map (k := 9) h3 q1
  have hlen : ∀ x ∈ Sof listed, (if x = j then k else len x) = len x := fun x hx => if_neg (fun e => hjS (by rw [← e]; exact hx))
  have hput := ShF.put (len := fun x => if x = j then k else len x) q2 q3 (fun x hx => ⟨(q4 x hx).1, by rw [hlen x hx]; exact (q4 x hx).2⟩) q5 q6 hj8 hjS (show k = if j = j then k else len j from (if_pos rfl).symm) hrow hvals hvm r1 r2
  have hperm : (j :: Sof listed).Perm (Sof (listed.setIfInBounds i true)) := (filter_more (p := fun j => listed.getD (insOf j) false) (q := fun j => (listed.setIfInBounds i true).getD (insOf j) false) (by decide) hj (by show listed.getD (insOf j) false = false; rw [hij]; exact getD_both' hun) (by show (listed.setIfInBounds i true).getD (insOf j) false = true; rw [hij]; exact getD_lt hun) (fun x hx => by
    refine set_other (fun e => ?_)
    have inj : ∀ x, x < 8 → ∀ y ∈ insL, insOf x = insOf y → x = y := by decide
    by_cases hx8 : x < 8
    · exact hx (inj x hx8 j hj (by rw [e, hij]))
    · have : insOf x = 0 := by
        unfold insOf
        rw [List.getD_eq_getElem?_getD, List.getElem?_eq_none (by show 8 ≤ x; omega)]
        rfl
      exact h05.1 (by rw [← e, this]))).symm
  have hsh' := hput.perm hperm
  have hMm : M m := (m6 m q6).1
  have hRm : c.R ≠ m := fun e => (m6 m q6).2 e.symm
  have hRb := hM c.R hsh.mine
  have hRk : w'.heap[c.R]? = w.heap[c.R]? := r2.block c.R hRb.2 (fun e => hRm (by injection e))
  have ha' : a.put (opAt i).dst undef = a := by rw [hdst]; rfl
  rw [ha']
  refine ⟨undef, fun _ => False, fun b => M b ∨ F t b, by rw [hdst]; rfl, ?_, ?_, ?_, r2.size, fun b h => h.elim, fun b h => ?_, fun b hlt2 hnM _ => r2.block b hlt2 (fun e => by injection e with e; exact hnM (by rw [e]; exact hMm))⟩
  · have := hb.put (v := undef) hi (show Below c.w0.heap.size c.w0 w' from Kept.below hb.below (kept_of_grown r2) hb.below.size (fun q hq e => by injection e with e; have := (hM m hMm).1; have := hc.base; omega))
    rw [ha'] at this
    exact this
  · refine ⟨fun h5 => (hsh.fresh (by rw [← set_other (i := i) h05.2.1.symm]; exact h5)).block hRk, ?_, Or.inl hsh.mine, fun h => ?_, fun _ => ⟨m, m1, fun h => m2 (by rw [← set_other (i := i) h05.2.2.1.symm]; exact h), fun h => m3 (by rw [← set_other (i := i) h05.2.2.2.symm]; exact h), _, _, fun x hx => ?_, hsh', fun b h => ?_⟩⟩
    · obtain ⟨q, g1, g2⟩ := hsh.writer
      exact ⟨q, g1, g2.block hRk⟩
    · rw [set_other h05.1.symm, h0] at h; cases h
    · have hx' := hperm.symm.mem_iff.1 hx
      by_cases e : x = j
      · rw [if_pos e]; exact ⟨k0, k1⟩
      · rw [if_neg e]
        rcases List.mem_cons.1 hx' with h | h
        · exact absurd h e
        · exact m4 x h
    · rcases h with h | h
      · exact ⟨Or.inl (m6 b h).1, (m6 b h).2⟩
      · exact ⟨Or.inr h, fun e => (hlt.2 b h).2.2 (e ▸ hsh.mine)⟩
  · show liveK (kindAt c i) _ _ _
    rw [hki]
    trivial
  · rcases h with h | h
    · exact ⟨Nat.lt_of_lt_of_le (hM b h).2 r2.size, (hM b h).1, Or.inl h⟩
    · exact ⟨Nat.lt_of_lt_of_le (hlt.2 b h).1 r2.size, (hlt.2 b h).2.1, Or.inr (Or.inr ⟨t, htk, h⟩)⟩
end
end Go.Proofs.YtgggpllmgnpngaaGreatDoor.Tb
