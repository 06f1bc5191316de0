/- Whether a file can be written: its numbers gathered. -/
import Derived.Test.YtgggpllmgnpngaaGreatDoorTbFitsReg
import Derived.Test.YtgggpllmgnpngaaGreatDoorTbLit
import Derived.Test.YtgggpllmgnpngaaGreatDoorTbSeq
namespace Go.Proofs.YtgggpllmgnpngaaGreatDoor.Tb.F5
open Go Go.RowKit Go.Proofs.YtgggpllmgnpngaaGreatDoor.Tb

theorem all_snoc' {α : Type} {P : α → Prop} {l : List α} {x : α} (h : ∀ y ∈ l, P y) (hx : P x) : ∀ y ∈ l ++ [x], P y := by
  intro y hy
  rcases List.mem_append.1 hy with h' | h'
  · exact h y h'
  · rw [List.mem_singleton.1 h']; exact hx

theorem info3 : (Tryz.prog.info? 3).map (fun i => (i.zero, i.size, i.bytes)) = some (some (.int .i64 0), 1, 8) := by kernel_rfl
theorem advs {G k : Nat} {w : World} (h : AdvAt G k w) : ∃ al : List Int, al.length = k ∧ (∀ x ∈ al, 0 ≤ x ∧ x ≤ 16000) ∧ ∀ (j : Nat) (x : Int), al[j]? = some x → w.cell? ⟨G, j, none⟩ = some (.int .i64 x) := by
  have key : ∀ n, n ≤ k → ∃ al : List Int, al.length = n ∧ (∀ x ∈ al, 0 ≤ x ∧ x ≤ 16000) ∧ ∀ (j : Nat) (x : Int), al[j]? = some x → w.cell? ⟨G, j, none⟩ = some (.int .i64 x) := by
    intro n
    induction n with
    | zero => exact fun _ => ⟨[], rfl, by simp, by simp⟩
    | succ n ih =>
      intro hn
      obtain ⟨al, h1, h2, h3⟩ := ih (by omega)
      obtain ⟨x, hx, hc⟩ := h.2 n (by omega)
      refine ⟨al ++ [x], by simp [h1], all_snoc' h2 hx, fun j y hj => ?_⟩
      by_cases hjn : j < n
      · rw [List.getElem?_append_left (by omega)] at hj
        exact h3 j y hj
      · have hjl := (List.getElem?_eq_some_iff.1 hj).1
        rw [List.length_append, List.length_singleton] at hjl
        have e : j = n := by omega
        subst e
        rw [List.getElem?_append_right (by omega)] at hj
        simp [h1] at hj
        subst hj
        exact hc
  exact key k (Nat.le_refl _)
theorem ints_oneCell' (l : List Int) : ∀ u ∈ l.map (fun x => Value.int .i64 x), u.oneCell' = true := by
  intro u hu
  obtain ⟨x, _, rfl⟩ := List.mem_map.1 hu
  rfl
theorem adv_news {G : Nat} {w w' : World} {al : List Int} (h : ∀ (j : Nat) (x : Int), al[j]? = some x → w.cell? ⟨G, j, none⟩ = some (.int .i64 x)) (k : Below w.heap.size w w') : ∀ j u, (al.map fun x => Value.int .i64 x)[j]? = some u → w'.cell? ((⟨G, 0, none⟩ : Addr).add j) = some u := by
  intro j u hj
  rw [List.getElem?_map] at hj
  obtain ⟨x, hx, rfl⟩ := Option.map_eq_some_iff.1 hj
  rw [Addr.add_lit, Nat.zero_add]
  exact below_cell k (h j x hx)

theorem ownsRow_full (w : World) (l : List Value) (e : TypeId) (n : Nat) (hn : l.length = n) (hm : n ≤ maxLen) : (w.alloc (.cells l.toArray e)).ownsRow 0 e 1 (.slice (some ⟨w.heap.size, 0, none⟩) n n) n l :=
  ⟨by simpa using hn, .inr ⟨w.heap.size, n, l.toArray, rfl, Nat.zero_le _, heap_alloc_new w _, Nat.le_refl _, hm, by simpa using hn, by simp [← hn]⟩⟩
theorem i3 : (Tryz.prog.info? 3).map (fun i => (i.zero, i.size, i.bytes)) = some (some (.int .i64 0), 1, 8) := by kernel_rfl
theorem r_app_none (a : Act) (w : World) (o : Oper) (s x : Operand) (ho : o.op = .call { callee := .builtin .append, args := #[s, x], argTypes := #[29, 29] }) (v : Value) (n : Nat) (l : List Value) (hs : a.eval s = v) (hx : a.eval x = vnil) (hown : w.ownsRow 0 3 1 v n l) : (execOp a.eval o).run Tryz.prog w = .ok (.value v) w := by
  obtain ⟨t3, j3, j3z, j3a, j3b⟩ := info_parts i3
  have hrun := run_append_owned_none (P := Tryz.prog) (w := w) 0 29 o.type 3 t3 1 Tryz.underlying29 j3 v n _ hown
  unfold execOp
  simp [ho, resolve, invoke, builtin, hs, hx, hrun, Result.andThen]
theorem after_of {listed : Array Bool} {i k : Nat} (hall : ∀ e ∈ (opAt i).after, Region.binds .any e = true → listed.getD e.on false = true) (h : ((opAt i).after.any fun e => Region.binds .any e && (e.on == k)) = true) : listed.getD k false = true := by
  obtain ⟨e, he, h3⟩ := Array.any_eq_true'.1 h
  simp at h3
  rw [← h3.2]
  exact hall e he h3.1
section
variable {c : Ctx} (hc : c.Ok) {Q : Exit → Act → World → Prop}
include hc
theorem st_0 : StepOK Tryz.prog ops5 Q (lawOf c) c.B 0 :=
  s_move hc 0 (by decide) (by decide) (by decide) 4 _ (by kernel_rfl) rfl (fun _ _ h => h.t4)
theorem st_1 : StepOK Tryz.prog ops5 Q (lawOf c) c.B 1 :=
  s_nilv hc 1 0 (by decide) (by decide) (by decide) (by decide) _ _ (by kernel_rfl) rfl rfl
theorem st_2 : StepOK Tryz.prog ops5 Q (lawOf c) c.B 2 :=
  s_fav hc 2 1 (by decide) (by decide) (by decide) (by decide) _ _ 26 1 (by kernel_rfl) rfl rfl (fun w => by kernel_rfl)
theorem st_3 : StepOK Tryz.prog ops5 Q (lawOf c) c.B 3 :=
  s_ldv hc 3 2 (by decide) (by decide) (by decide) (by decide) _ 3 _ _ (by kernel_rfl) rfl rfl rfl Tryz.underlying3 rfl
theorem st_4 : StepOK Tryz.prog ops5 Q (lawOf c) c.B 4 :=
  s_move hc 4 (by decide) (by decide) (by decide) 4 _ (by kernel_rfl) rfl (fun _ _ h => h.t4)
theorem st_5 : StepOK Tryz.prog ops5 Q (lawOf c) c.B 5 :=
  s_nilv hc 5 4 (by decide) (by decide) (by decide) (by decide) _ _ (by kernel_rfl) rfl rfl
theorem st_6 : StepOK Tryz.prog ops5 Q (lawOf c) c.B 6 :=
  s_fav hc 6 5 (by decide) (by decide) (by decide) (by decide) _ _ 26 2 (by kernel_rfl) rfl rfl (fun w => by kernel_rfl)
theorem st_7 : StepOK Tryz.prog ops5 Q (lawOf c) c.B 7 :=
  s_ldv hc 7 6 (by decide) (by decide) (by decide) (by decide) _ 3 _ _ (by kernel_rfl) rfl rfl rfl Tryz.underlying3 rfl
theorem st_8 : StepOK Tryz.prog ops5 Q (lawOf c) c.B 8 :=
  s_move hc 8 (by decide) (by decide) (by decide) 4 _ (by kernel_rfl) rfl (fun _ _ h => h.t4)
theorem st_9 : StepOK Tryz.prog ops5 Q (lawOf c) c.B 9 :=
  s_nilv hc 9 8 (by decide) (by decide) (by decide) (by decide) _ _ (by kernel_rfl) rfl rfl
theorem st_10 : StepOK Tryz.prog ops5 Q (lawOf c) c.B 10 :=
  s_fav hc 10 9 (by decide) (by decide) (by decide) (by decide) _ _ 26 3 (by kernel_rfl) rfl rfl (fun w => by kernel_rfl)
theorem st_11 : StepOK Tryz.prog ops5 Q (lawOf c) c.B 11 :=
  s_ldv hc 11 10 (by decide) (by decide) (by decide) (by decide) _ 3 _ _ (by kernel_rfl) rfl rfl rfl Tryz.underlying3 rfl
theorem st_12 : StepOK Tryz.prog ops5 Q (lawOf c) c.B 12 :=
  s_move hc 12 (by decide) (by decide) (by decide) 4 _ (by kernel_rfl) rfl (fun _ _ h => h.t4)
theorem st_13 : StepOK Tryz.prog ops5 Q (lawOf c) c.B 13 :=
  s_nilv hc 13 12 (by decide) (by decide) (by decide) (by decide) _ _ (by kernel_rfl) rfl rfl
theorem st_14 : StepOK Tryz.prog ops5 Q (lawOf c) c.B 14 :=
  s_fav hc 14 13 (by decide) (by decide) (by decide) (by decide) _ _ 26 4 (by kernel_rfl) rfl rfl (fun w => by kernel_rfl)
theorem st_15 : StepOK Tryz.prog ops5 Q (lawOf c) c.B 15 :=
  s_ldv hc 15 14 (by decide) (by decide) (by decide) (by decide) _ 3 _ _ (by kernel_rfl) rfl rfl rfl Tryz.underlying3 rfl
theorem st_16 : StepOK Tryz.prog ops5 Q (lawOf c) c.B 16 :=
  s_move hc 16 (by decide) (by decide) (by decide) 4 _ (by kernel_rfl) rfl (fun _ _ h => h.t4)
theorem st_17 : StepOK Tryz.prog ops5 Q (lawOf c) c.B 17 :=
  s_nilv hc 17 16 (by decide) (by decide) (by decide) (by decide) _ _ (by kernel_rfl) rfl rfl
theorem st_18 : StepOK Tryz.prog ops5 Q (lawOf c) c.B 18 :=
  s_fav hc 18 17 (by decide) (by decide) (by decide) (by decide) _ _ 26 5 (by kernel_rfl) rfl rfl (fun w => by kernel_rfl)
theorem st_19 : StepOK Tryz.prog ops5 Q (lawOf c) c.B 19 :=
  s_ldv hc 19 18 (by decide) (by decide) (by decide) (by decide) _ 3 _ _ (by kernel_rfl) rfl rfl rfl Tryz.underlying3 rfl
theorem st_20 : StepOK Tryz.prog ops5 Q (lawOf c) c.B 20 :=
  s_move hc 20 (by decide) (by decide) (by decide) 4 _ (by kernel_rfl) rfl (fun _ _ h => h.t4)
theorem st_21 : StepOK Tryz.prog ops5 Q (lawOf c) c.B 21 :=
  s_nilv hc 21 20 (by decide) (by decide) (by decide) (by decide) _ _ (by kernel_rfl) rfl rfl
theorem st_22 : StepOK Tryz.prog ops5 Q (lawOf c) c.B 22 :=
  s_fav hc 22 21 (by decide) (by decide) (by decide) (by decide) _ _ 26 6 (by kernel_rfl) rfl rfl (fun w => by kernel_rfl)
theorem st_23 : StepOK Tryz.prog ops5 Q (lawOf c) c.B 23 :=
  s_ldv hc 23 22 (by decide) (by decide) (by decide) (by decide) _ 3 _ _ (by kernel_rfl) rfl rfl rfl Tryz.underlying3 rfl
theorem st_24 : StepOK Tryz.prog ops5 Q (lawOf c) c.B 24 :=
  s_move hc 24 (by decide) (by decide) (by decide) 4 _ (by kernel_rfl) rfl (fun _ _ h => h.t4)
theorem st_25 : StepOK Tryz.prog ops5 Q (lawOf c) c.B 25 :=
  s_nilv hc 25 24 (by decide) (by decide) (by decide) (by decide) _ _ (by kernel_rfl) rfl rfl
theorem st_26 : StepOK Tryz.prog ops5 Q (lawOf c) c.B 26 :=
  s_fav hc 26 25 (by decide) (by decide) (by decide) (by decide) _ _ 26 8 (by kernel_rfl) rfl rfl (fun w => by kernel_rfl)
theorem st_27 : StepOK Tryz.prog ops5 Q (lawOf c) c.B 27 :=
  s_ldv hc 27 26 (by decide) (by decide) (by decide) (by decide) _ 3 _ _ (by kernel_rfl) rfl rfl rfl Tryz.underlying3 rfl
theorem st_28 : StepOK Tryz.prog ops5 Q (lawOf c) c.B 28 :=
  s_move hc 28 (by decide) (by decide) (by decide) 4 _ (by kernel_rfl) rfl (fun _ _ h => h.t4)
theorem st_29 : StepOK Tryz.prog ops5 Q (lawOf c) c.B 29 :=
  s_nilv hc 29 28 (by decide) (by decide) (by decide) (by decide) _ _ (by kernel_rfl) rfl rfl
theorem st_30 : StepOK Tryz.prog ops5 Q (lawOf c) c.B 30 :=
  s_fav hc 30 29 (by decide) (by decide) (by decide) (by decide) _ _ 26 9 (by kernel_rfl) rfl rfl (fun w => by kernel_rfl)
theorem st_31 : StepOK Tryz.prog ops5 Q (lawOf c) c.B 31 :=
  s_ldv hc 31 30 (by decide) (by decide) (by decide) (by decide) _ 3 _ _ (by kernel_rfl) rfl rfl rfl Tryz.underlying3 rfl
theorem st_32 : StepOK Tryz.prog ops5 Q (lawOf c) c.B 32 :=
  s_move hc 32 (by decide) (by decide) (by decide) 4 _ (by kernel_rfl) rfl (fun _ _ h => h.t4)
theorem st_33 : StepOK Tryz.prog ops5 Q (lawOf c) c.B 33 :=
  s_nilv hc 33 32 (by decide) (by decide) (by decide) (by decide) _ _ (by kernel_rfl) rfl rfl
theorem st_34 : StepOK Tryz.prog ops5 Q (lawOf c) c.B 34 :=
  s_fav hc 34 33 (by decide) (by decide) (by decide) (by decide) _ _ 26 10 (by kernel_rfl) rfl rfl (fun w => by kernel_rfl)
theorem st_35 : StepOK Tryz.prog ops5 Q (lawOf c) c.B 35 :=
  s_ldv hc 35 34 (by decide) (by decide) (by decide) (by decide) _ 3 _ _ (by kernel_rfl) rfl rfl rfl Tryz.underlying3 rfl
theorem st_36 : StepOK Tryz.prog ops5 Q (lawOf c) c.B 36 :=
  s_move hc 36 (by decide) (by decide) (by decide) 4 _ (by kernel_rfl) rfl (fun _ _ h => h.t4)
theorem st_37 : StepOK Tryz.prog ops5 Q (lawOf c) c.B 37 :=
  s_nilv hc 37 36 (by decide) (by decide) (by decide) (by decide) _ _ (by kernel_rfl) rfl rfl
theorem st_38 : StepOK Tryz.prog ops5 Q (lawOf c) c.B 38 :=
  s_fav hc 38 37 (by decide) (by decide) (by decide) (by decide) _ _ 26 11 (by kernel_rfl) rfl rfl (fun w => by kernel_rfl)
theorem st_39 : StepOK Tryz.prog ops5 Q (lawOf c) c.B 39 :=
  s_ldv hc 39 38 (by decide) (by decide) (by decide) (by decide) _ 3 _ _ (by kernel_rfl) rfl rfl rfl Tryz.underlying3 rfl
theorem st_40 : StepOK Tryz.prog ops5 Q (lawOf c) c.B 40 :=
  s_move hc 40 (by decide) (by decide) (by decide) 4 _ (by kernel_rfl) rfl (fun _ _ h => h.t4)
theorem st_41 : StepOK Tryz.prog ops5 Q (lawOf c) c.B 41 :=
  s_nilv hc 41 40 (by decide) (by decide) (by decide) (by decide) _ _ (by kernel_rfl) rfl rfl
theorem st_42 : StepOK Tryz.prog ops5 Q (lawOf c) c.B 42 :=
  s_fav hc 42 41 (by decide) (by decide) (by decide) (by decide) _ _ 26 12 (by kernel_rfl) rfl rfl (fun w => by kernel_rfl)
theorem st_43 : StepOK Tryz.prog ops5 Q (lawOf c) c.B 43 :=
  s_ldv hc 43 42 (by decide) (by decide) (by decide) (by decide) _ 3 _ _ (by kernel_rfl) rfl rfl rfl Tryz.underlying3 rfl
theorem st_44 : StepOK Tryz.prog ops5 Q (lawOf c) c.B 44 :=
  s_move hc 44 (by decide) (by decide) (by decide) 4 _ (by kernel_rfl) rfl (fun _ _ h => h.t4)
theorem st_45 : StepOK Tryz.prog ops5 Q (lawOf c) c.B 45 :=
  s_nilv hc 45 44 (by decide) (by decide) (by decide) (by decide) _ _ (by kernel_rfl) rfl rfl
theorem st_46 : StepOK Tryz.prog ops5 Q (lawOf c) c.B 46 :=
  s_fav hc 46 45 (by decide) (by decide) (by decide) (by decide) _ _ 26 13 (by kernel_rfl) rfl rfl (fun w => by kernel_rfl)
theorem st_47 : StepOK Tryz.prog ops5 Q (lawOf c) c.B 47 :=
  s_ldv hc 47 46 (by decide) (by decide) (by decide) (by decide) _ 3 _ _ (by kernel_rfl) rfl rfl rfl Tryz.underlying3 rfl
theorem st_48 : StepOK Tryz.prog ops5 Q (lawOf c) c.B 48 :=
  s_move hc 48 (by decide) (by decide) (by decide) 4 _ (by kernel_rfl) rfl (fun _ _ h => h.t4)
theorem st_49 : StepOK Tryz.prog ops5 Q (lawOf c) c.B 49 :=
  s_nilv hc 49 48 (by decide) (by decide) (by decide) (by decide) _ _ (by kernel_rfl) rfl rfl
theorem st_50 : StepOK Tryz.prog ops5 Q (lawOf c) c.B 50 :=
  s_fav hc 50 49 (by decide) (by decide) (by decide) (by decide) _ _ 26 18 (by kernel_rfl) rfl rfl (fun w => by kernel_rfl)
theorem st_51 : StepOK Tryz.prog ops5 Q (lawOf c) c.B 51 :=
  s_ldv hc 51 50 (by decide) (by decide) (by decide) (by decide) _ 3 _ _ (by kernel_rfl) rfl rfl rfl Tryz.underlying3 rfl
theorem st_52 : StepOK Tryz.prog ops5 Q (lawOf c) c.B 52 :=
  s_move hc 52 (by decide) (by decide) (by decide) 4 _ (by kernel_rfl) rfl (fun _ _ h => h.t4)
theorem st_53 : StepOK Tryz.prog ops5 Q (lawOf c) c.B 53 :=
  s_nilv hc 53 52 (by decide) (by decide) (by decide) (by decide) _ _ (by kernel_rfl) rfl rfl
theorem st_54 : StepOK Tryz.prog ops5 Q (lawOf c) c.B 54 :=
  s_fav hc 54 53 (by decide) (by decide) (by decide) (by decide) _ _ 26 19 (by kernel_rfl) rfl rfl (fun w => by kernel_rfl)
theorem st_55 : StepOK Tryz.prog ops5 Q (lawOf c) c.B 55 :=
  s_ldv hc 55 54 (by decide) (by decide) (by decide) (by decide) _ 3 _ _ (by kernel_rfl) rfl rfl rfl Tryz.underlying3 rfl
theorem st_56 : StepOK Tryz.prog ops5 Q (lawOf c) c.B 56 :=
  s_move hc 56 (by decide) (by decide) (by decide) 4 _ (by kernel_rfl) rfl (fun _ _ h => h.t4)
theorem st_57 : StepOK Tryz.prog ops5 Q (lawOf c) c.B 57 :=
  s_nilv hc 57 56 (by decide) (by decide) (by decide) (by decide) _ _ (by kernel_rfl) rfl rfl
theorem st_58 : StepOK Tryz.prog ops5 Q (lawOf c) c.B 58 :=
  s_fav hc 58 57 (by decide) (by decide) (by decide) (by decide) _ _ 26 20 (by kernel_rfl) rfl rfl (fun w => by kernel_rfl)
theorem st_59 : StepOK Tryz.prog ops5 Q (lawOf c) c.B 59 :=
  s_ldv hc 59 58 (by decide) (by decide) (by decide) (by decide) _ 3 _ _ (by kernel_rfl) rfl rfl rfl Tryz.underlying3 rfl
theorem st_60 : StepOK Tryz.prog ops5 Q (lawOf c) c.B 60 :=
  s_move hc 60 (by decide) (by decide) (by decide) 4 _ (by kernel_rfl) rfl (fun _ _ h => h.t4)
theorem st_61 : StepOK Tryz.prog ops5 Q (lawOf c) c.B 61 :=
  s_nilv hc 61 60 (by decide) (by decide) (by decide) (by decide) _ _ (by kernel_rfl) rfl rfl
theorem st_62 : StepOK Tryz.prog ops5 Q (lawOf c) c.B 62 :=
  s_fav hc 62 61 (by decide) (by decide) (by decide) (by decide) _ _ 26 21 (by kernel_rfl) rfl rfl (fun w => by kernel_rfl)
theorem st_63 : StepOK Tryz.prog ops5 Q (lawOf c) c.B 63 :=
  s_ldv hc 63 62 (by decide) (by decide) (by decide) (by decide) _ 3 _ _ (by kernel_rfl) rfl rfl rfl Tryz.underlying3 rfl
theorem st_64 : StepOK Tryz.prog ops5 Q (lawOf c) c.B 64 :=
  s_move hc 64 (by decide) (by decide) (by decide) 4 _ (by kernel_rfl) rfl (fun _ _ h => h.t4)
theorem st_65 : StepOK Tryz.prog ops5 Q (lawOf c) c.B 65 :=
  s_nilv hc 65 64 (by decide) (by decide) (by decide) (by decide) _ _ (by kernel_rfl) rfl rfl
theorem st_66 : StepOK Tryz.prog ops5 Q (lawOf c) c.B 66 :=
  s_fav hc 66 65 (by decide) (by decide) (by decide) (by decide) _ _ 26 22 (by kernel_rfl) rfl rfl (fun w => by kernel_rfl)
theorem st_67 : StepOK Tryz.prog ops5 Q (lawOf c) c.B 67 :=
  s_ldv hc 67 66 (by decide) (by decide) (by decide) (by decide) _ 3 _ _ (by kernel_rfl) rfl rfl rfl Tryz.underlying3 rfl
theorem st_68 : StepOK Tryz.prog ops5 Q (lawOf c) c.B 68 :=
  s_move hc 68 (by decide) (by decide) (by decide) 4 _ (by kernel_rfl) rfl (fun _ _ h => h.t4)
theorem st_69 : StepOK Tryz.prog ops5 Q (lawOf c) c.B 69 :=
  s_nilv hc 69 68 (by decide) (by decide) (by decide) (by decide) _ _ (by kernel_rfl) rfl rfl
theorem st_70 : StepOK Tryz.prog ops5 Q (lawOf c) c.B 70 :=
  s_fav hc 70 69 (by decide) (by decide) (by decide) (by decide) _ _ 26 23 (by kernel_rfl) rfl rfl (fun w => by kernel_rfl)
theorem st_71 : StepOK Tryz.prog ops5 Q (lawOf c) c.B 71 :=
  s_ldv hc 71 70 (by decide) (by decide) (by decide) (by decide) _ 3 _ _ (by kernel_rfl) rfl rfl rfl Tryz.underlying3 rfl
theorem st_72 : StepOK Tryz.prog ops5 Q (lawOf c) c.B 72 :=
  s_move hc 72 (by decide) (by decide) (by decide) 4 _ (by kernel_rfl) rfl (fun _ _ h => h.t4)
theorem st_73 : StepOK Tryz.prog ops5 Q (lawOf c) c.B 73 :=
  s_nilv hc 73 72 (by decide) (by decide) (by decide) (by decide) _ _ (by kernel_rfl) rfl rfl
theorem st_74 : StepOK Tryz.prog ops5 Q (lawOf c) c.B 74 :=
  s_fav hc 74 73 (by decide) (by decide) (by decide) (by decide) _ _ 26 24 (by kernel_rfl) rfl rfl (fun w => by kernel_rfl)
theorem st_75 : StepOK Tryz.prog ops5 Q (lawOf c) c.B 75 :=
  s_ldv hc 75 74 (by decide) (by decide) (by decide) (by decide) _ 3 _ _ (by kernel_rfl) rfl rfl rfl Tryz.underlying3 rfl
theorem st_76 : StepOK Tryz.prog ops5 Q (lawOf c) c.B 76 :=
  s_move hc 76 (by decide) (by decide) (by decide) 4 _ (by kernel_rfl) rfl (fun _ _ h => h.t4)
theorem st_77 : StepOK Tryz.prog ops5 Q (lawOf c) c.B 77 :=
  s_nilv hc 77 76 (by decide) (by decide) (by decide) (by decide) _ _ (by kernel_rfl) rfl rfl
theorem st_78 : StepOK Tryz.prog ops5 Q (lawOf c) c.B 78 :=
  s_fav hc 78 77 (by decide) (by decide) (by decide) (by decide) _ _ 26 25 (by kernel_rfl) rfl rfl (fun w => by kernel_rfl)
theorem st_79 : StepOK Tryz.prog ops5 Q (lawOf c) c.B 79 :=
  s_ldv hc 79 78 (by decide) (by decide) (by decide) (by decide) _ 3 _ _ (by kernel_rfl) rfl rfl rfl Tryz.underlying3 rfl
theorem st_81 : StepOK Tryz.prog ops5 Q (lawOf c) c.B 81 :=
  s_move hc 81 (by decide) (by decide) (by decide) 0 _ (by kernel_rfl) rfl (fun _ _ h => h.t0)
theorem st_82 : StepOK Tryz.prog ops5 Q (lawOf c) c.B 82 :=
  s_nilv hc 82 81 (by decide) (by decide) (by decide) (by decide) _ _ (by kernel_rfl) rfl rfl
theorem st_83 : StepOK Tryz.prog ops5 Q (lawOf c) c.B 83 :=
  s_fav hc 83 82 (by decide) (by decide) (by decide) (by decide) _ _ 35 3 (by kernel_rfl) rfl rfl (fun w => by kernel_rfl)
theorem st_84 : StepOK Tryz.prog ops5 Q (lawOf c) c.B 84 :=
  s_ldv hc 84 83 (by decide) (by decide) (by decide) (by decide) _ 29 _ _ (by kernel_rfl) rfl rfl rfl Tryz.underlying29 rfl
theorem st_86 : StepOK Tryz.prog ops5 Q (lawOf c) c.B 86 :=
  s_move hc 86 (by decide) (by decide) (by decide) 0 _ (by kernel_rfl) rfl (fun _ _ h => h.t0)
theorem st_87 : StepOK Tryz.prog ops5 Q (lawOf c) c.B 87 :=
  s_nilv hc 87 86 (by decide) (by decide) (by decide) (by decide) _ _ (by kernel_rfl) rfl rfl
theorem st_88 : StepOK Tryz.prog ops5 Q (lawOf c) c.B 88 :=
  s_fav hc 88 87 (by decide) (by decide) (by decide) (by decide) _ _ 35 5 (by kernel_rfl) rfl rfl (fun w => by kernel_rfl)
theorem st_89 : StepOK Tryz.prog ops5 Q (lawOf c) c.B 89 :=
  s_ldv hc 89 88 (by decide) (by decide) (by decide) (by decide) _ 29 _ _ (by kernel_rfl) rfl rfl rfl Tryz.underlying29 rfl
theorem st_80 : StepOK Tryz.prog ops5 Q (lawOf c) c.B 80 :=
  step_plain hc 80 (by decide) (by decide) (by decide) fun a w F hbase hl _ => by
    have h3 := (hl 3 (by show 3 ∈ [3, 7, 11, 15, 19, 23, 27, 31, 35, 39, 43, 47, 51, 55, 59, 63, 67, 71, 75, 79]; decide)).1
    have e3 : a.eval (.tmp 105) = vi (c.M 1) := h3
    have h7 := (hl 7 (by show 7 ∈ [3, 7, 11, 15, 19, 23, 27, 31, 35, 39, 43, 47, 51, 55, 59, 63, 67, 71, 75, 79]; decide)).1
    have e7 : a.eval (.tmp 109) = vi (c.M 2) := h7
    have h11 := (hl 11 (by show 11 ∈ [3, 7, 11, 15, 19, 23, 27, 31, 35, 39, 43, 47, 51, 55, 59, 63, 67, 71, 75, 79]; decide)).1
    have e11 : a.eval (.tmp 113) = vi (c.M 3) := h11
    have h15 := (hl 15 (by show 15 ∈ [3, 7, 11, 15, 19, 23, 27, 31, 35, 39, 43, 47, 51, 55, 59, 63, 67, 71, 75, 79]; decide)).1
    have e15 : a.eval (.tmp 117) = vi (c.M 4) := h15
    have h19 := (hl 19 (by show 19 ∈ [3, 7, 11, 15, 19, 23, 27, 31, 35, 39, 43, 47, 51, 55, 59, 63, 67, 71, 75, 79]; decide)).1
    have e19 : a.eval (.tmp 121) = vi (c.M 5) := h19
    have h23 := (hl 23 (by show 23 ∈ [3, 7, 11, 15, 19, 23, 27, 31, 35, 39, 43, 47, 51, 55, 59, 63, 67, 71, 75, 79]; decide)).1
    have e23 : a.eval (.tmp 125) = vi (c.M 6) := h23
    have h27 := (hl 27 (by show 27 ∈ [3, 7, 11, 15, 19, 23, 27, 31, 35, 39, 43, 47, 51, 55, 59, 63, 67, 71, 75, 79]; decide)).1
    have e27 : a.eval (.tmp 129) = vi (c.M 8) := h27
    have h31 := (hl 31 (by show 31 ∈ [3, 7, 11, 15, 19, 23, 27, 31, 35, 39, 43, 47, 51, 55, 59, 63, 67, 71, 75, 79]; decide)).1
    have e31 : a.eval (.tmp 133) = vi (c.M 9) := h31
    have h35 := (hl 35 (by show 35 ∈ [3, 7, 11, 15, 19, 23, 27, 31, 35, 39, 43, 47, 51, 55, 59, 63, 67, 71, 75, 79]; decide)).1
    have e35 : a.eval (.tmp 137) = vi (c.M 10) := h35
    have h39 := (hl 39 (by show 39 ∈ [3, 7, 11, 15, 19, 23, 27, 31, 35, 39, 43, 47, 51, 55, 59, 63, 67, 71, 75, 79]; decide)).1
    have e39 : a.eval (.tmp 141) = vi (c.M 11) := h39
    have h43 := (hl 43 (by show 43 ∈ [3, 7, 11, 15, 19, 23, 27, 31, 35, 39, 43, 47, 51, 55, 59, 63, 67, 71, 75, 79]; decide)).1
    have e43 : a.eval (.tmp 145) = vi (c.M 12) := h43
    have h47 := (hl 47 (by show 47 ∈ [3, 7, 11, 15, 19, 23, 27, 31, 35, 39, 43, 47, 51, 55, 59, 63, 67, 71, 75, 79]; decide)).1
    have e47 : a.eval (.tmp 149) = vi (c.M 13) := h47
    have h51 := (hl 51 (by show 51 ∈ [3, 7, 11, 15, 19, 23, 27, 31, 35, 39, 43, 47, 51, 55, 59, 63, 67, 71, 75, 79]; decide)).1
    have e51 : a.eval (.tmp 153) = vi (c.M 18) := h51
    have h55 := (hl 55 (by show 55 ∈ [3, 7, 11, 15, 19, 23, 27, 31, 35, 39, 43, 47, 51, 55, 59, 63, 67, 71, 75, 79]; decide)).1
    have e55 : a.eval (.tmp 157) = vi (c.M 19) := h55
    have h59 := (hl 59 (by show 59 ∈ [3, 7, 11, 15, 19, 23, 27, 31, 35, 39, 43, 47, 51, 55, 59, 63, 67, 71, 75, 79]; decide)).1
    have e59 : a.eval (.tmp 161) = vi (c.M 20) := h59
    have h63 := (hl 63 (by show 63 ∈ [3, 7, 11, 15, 19, 23, 27, 31, 35, 39, 43, 47, 51, 55, 59, 63, 67, 71, 75, 79]; decide)).1
    have e63 : a.eval (.tmp 165) = vi (c.M 21) := h63
    have h67 := (hl 67 (by show 67 ∈ [3, 7, 11, 15, 19, 23, 27, 31, 35, 39, 43, 47, 51, 55, 59, 63, 67, 71, 75, 79]; decide)).1
    have e67 : a.eval (.tmp 169) = vi (c.M 22) := h67
    have h71 := (hl 71 (by show 71 ∈ [3, 7, 11, 15, 19, 23, 27, 31, 35, 39, 43, 47, 51, 55, 59, 63, 67, 71, 75, 79]; decide)).1
    have e71 : a.eval (.tmp 173) = vi (c.M 23) := h71
    have h75 := (hl 75 (by show 75 ∈ [3, 7, 11, 15, 19, 23, 27, 31, 35, 39, 43, 47, 51, 55, 59, 63, 67, 71, 75, 79]; decide)).1
    have e75 : a.eval (.tmp 177) = vi (c.M 24) := h75
    have h79 := (hl 79 (by show 79 ∈ [3, 7, 11, 15, 19, 23, 27, 31, 35, 39, 43, 47, 51, 55, 59, 63, 67, 71, 75, 79]; decide)).1
    have e79 : a.eval (.tmp 181) = vi (c.M 25) := h79
    have e : (#[(0, .tmp 105), (1, .tmp 109), (2, .tmp 113), (3, .tmp 117), (4, .tmp 121), (5, .tmp 125), (6, .tmp 129), (7, .tmp 133), (8, .tmp 137), (9, .tmp 141), (10, .tmp 145), (11, .tmp 149), (12, .tmp 153), (13, .tmp 157), (14, .tmp 161), (15, .tmp 165), (16, .tmp 169), (17, .tmp 173), (18, .tmp 177), (19, .tmp 181)] : Array (Nat × Operand)).map (fun (i, x) => (i, a.eval x)) = (#[(0, vi (c.M 1)), (1, vi (c.M 2)), (2, vi (c.M 3)), (3, vi (c.M 4)), (4, vi (c.M 5)), (5, vi (c.M 6)), (6, vi (c.M 8)), (7, vi (c.M 9)), (8, vi (c.M 10)), (9, vi (c.M 11)), (10, vi (c.M 12)), (11, vi (c.M 13)), (12, vi (c.M 18)), (13, vi (c.M 19)), (14, vi (c.M 20)), (15, vi (c.M 21)), (16, vi (c.M 22)), (17, vi (c.M 23)), (18, vi (c.M 24)), (19, vi (c.M 25))] : Array (Nat × Value)) := by
      simp only [List.map_toArray, List.map_cons, List.map_nil, e3, e7, e11, e15, e19, e23, e27, e31, e35, e39, e43, e47, e51, e55, e59, e63, e67, e71, e75, e79]
    have hop : (opAt 80).op = .buildSlice 29 20 #[(0, .tmp 105), (1, .tmp 109), (2, .tmp 113), (3, .tmp 117), (4, .tmp 121), (5, .tmp 125), (6, .tmp 129), (7, .tmp 133), (8, .tmp 137), (9, .tmp 141), (10, .tmp 145), (11, .tmp 149), (12, .tmp 153), (13, .tmp 157), (14, .tmp 161), (15, .tmp 165), (16, .tmp 169), (17, .tmp 173), (18, .tmp 177), (19, .tmp 181)] := by kernel_rfl
    have hr' : (execOp a.eval (opAt 80)).run Tryz.prog w = .ok (.value (.slice (some ⟨w.heap.size, 0, none⟩) 20 20)) (w.alloc (.cells (([c.M 1, c.M 2, c.M 3, c.M 4, c.M 5, c.M 6, c.M 8, c.M 9, c.M 10, c.M 11, c.M 12, c.M 13, c.M 18, c.M 19, c.M 20, c.M 21, c.M 22, c.M 23, c.M 24, c.M 25] : List Int).map fun x => Value.int .i64 x).toArray 3)) := by
      unfold execOp; rw [hop]; dsimp only
      rw [Sem.run_bind, bs_eq e (show _ = .ok (.slice (some ⟨w.heap.size, 0, none⟩) 20 20) (w.alloc (.cells (([c.M 1, c.M 2, c.M 3, c.M 4, c.M 5, c.M 6, c.M 8, c.M 9, c.M 10, c.M 11, c.M 12, c.M 13, c.M 18, c.M 19, c.M 20, c.M 21, c.M 22, c.M 23, c.M 24, c.M 25] : List Int).map fun x => Value.int .i64 x).toArray 3)) from by kernel_rfl)]; rfl
    unfold Oper.wp
    rw [hr']
    have lim := hc.file.lim.all
    refine ⟨_, fun _ => False, fun b => b = w.heap.size, rfl, on_alloc w _, fun b h => h.elim, ?_, fun b h => by rw [World.size_alloc]; omega⟩
    show liveK (.ints 20) _ _ _
    refine ⟨_, _, [c.M 1, c.M 2, c.M 3, c.M 4, c.M 5, c.M 6, c.M 8, c.M 9, c.M 10, c.M 11, c.M 12, c.M 13, c.M 18, c.M 19, c.M 20, c.M 21, c.M 22, c.M 23, c.M 24, c.M 25], rfl, rfl, fun x hx => ?_, ownsRow_full w _ 3 20 rfl (by unfold maxLen; omega), rfl⟩
    simp only [List.mem_cons, List.not_mem_nil, or_false] at hx
    rcases hx with rfl | rfl | rfl | rfl | rfl | rfl | rfl | rfl | rfl | rfl | rfl | rfl | rfl | rfl | rfl | rfl | rfl | rfl | rfl | rfl <;> exact lim _

/-- The advances appended. -/
theorem st_85 : StepOK Tryz.prog ops5 Q (lawOf c) c.B 85 :=
  step_plain hc 85 (by decide) (by decide) (by decide) fun a w F hbase hl _ => by
    have h80 := (hl 80 (by show 80 ∈ [80, 84]; decide)).1
    have h80F := (hl 80 (by show 80 ∈ [80, 84]; decide)).2
    have e84 : a.eval (.tmp 186) = .slice (some ⟨c.G, 0, none⟩) c.k c.cap := (hl 84 (by show 84 ∈ [80, 84]; decide)).1
    obtain ⟨g, cp, l, e80, h2, h3, h4, h5⟩ := (h80 : liveK (.ints 20) (a.eval (.tmp 182)) (F 80) w)
    rw [e80] at h4
    obtain ⟨t3, j3, j3z, j3a, j3b⟩ := info_parts i3
    obtain ⟨al, a1, a2, a3⟩ := advs hc.file.ints
    have hp := hc.file.pos
    have hop : (opAt 85).op = .call { callee := .builtin .append, args := #[.tmp 182, .tmp 186], argTypes := #[29, 29] } := by kernel_rfl
    refine wp_append_lies w (.tmp 182) (.tmp 186) 29 hop 0 3 t3 _ 1 8 Tryz.underlying29 j3 j3z j3a j3b rfl (by decide) _ 20 _ e80 h4 ⟨c.G, 0, none⟩ c.k c.cap (al.map fun x => .int .i64 x) e84 (by simp [a1]) (adv_news a3 hbase.below) (ints_oneCell' al) hp.1 (by unfold maxLen; omega) (by omega) (Nat.zero_le _) w.heap.size rfl ?_
    intro gg gcap w1 own1 hg1 hat hlt
    have hk := kept_of_grown hg1
    refine ⟨_, F 80, fun b => b = gg, rfl, ⟨hg1.os, hg1.tape, hg1.output, hg1.size, fun b hb => ?_, fun b hb hn => hg1.block b hb (fun e => hn ?_)⟩, fun b hb => ⟨80, by show 80 ∈ [80, 84]; decide, hb⟩, ?_, fun b hb => by rw [hb]; exact hlt⟩
    · rcases hat with h | h
      · have : g = gg := by simpa [Value.ownBlock] using h
        subst this
        subst hb
        exact Or.inl h5
      · exact Or.inr (by omega)
    · injection e with e
      rw [e]; exact h5
    · show liveK (.ints (20 + c.k)) _ _ _
      refine ⟨gg, gcap, l ++ al, rfl, by rw [List.length_append, h2, a1], fun x hx => ?_, by rw [List.map_append]; exact own1, rfl⟩
      rcases List.mem_append.1 hx with h | h
      · exact h3 x h
      · have := a2 x h; omega
omit hc in
theorem st_92 : StepOK Tryz.prog ops5 Q (lawOf c) c.B 92 := by
  intro o listed a w F M ho hun hall hb hB hsh hM hlive hdis
  obtain ⟨hi, rfl⟩ := at_of ho
  refine wpOp_of ho (dst_is 92 hi).2 ?_
  have hop : (opAt 92).op = .move (.const (.int .i64 0)) := by kernel_rfl
  have hd : (opAt 92).dst = some 194 := by kernel_rfl
  have hr : (execOp a.eval (opAt 92)).run Tryz.prog w = .ok (.value (vi 0)) w := by unfold execOp; rw [hop]; rfl
  unfold Oper.wp
  rw [hr]
  refine ⟨_, fun _ => False, M, rfl, hb.put hi hb.below, hsh.keep hi (by decide) (fun _ _ => rfl), ?_, Nat.le_refl _, fun b h => h.elim, fun b h => ⟨(hM b h).2, (hM b h).1, Or.inl h⟩, fun b _ _ _ => rfl⟩
  show (a.put (opAt 92).dst (vi 0)).eval (.tmp 194) = vi 0
  rw [hd, eval_put_same _ _ _ (by rw [hb.size]; decide)]
omit hc in
theorem st_91 : StepOK Tryz.prog ops5 Q (lawOf c) c.B 91 := by
  intro o listed a w F M ho hun hall hb hB hsh hM hlive hdis
  obtain ⟨hi, rfl⟩ := at_of ho
  refine wpOp_of ho (dst_is 91 hi).2 ?_
  have hop : (opAt 91).op = .call { callee := .builtin .len, args := #[.tmp 192], argTypes := #[29] } := by kernel_rfl
  have hd : (opAt 91).dst = some 193 := by kernel_rfl
  obtain ⟨A, cp, e192⟩ := hsh.len (after_of hall (by kernel_rfl))
  have hr := r_len a w (opAt 91) (.tmp 192) 29 A (20 + c.k) cp 3 hop e192 Tryz.underlying29
  unfold Oper.wp
  rw [hr]
  refine ⟨_, fun _ => False, M, rfl, hb.put hi hb.below, hsh.keep hi (by decide) (fun _ _ => rfl), ?_, Nat.le_refl _, fun b h => h.elim, fun b h => ⟨(hM b h).2, (hM b h).1, Or.inl h⟩, fun b _ _ _ => rfl⟩
  show (a.put (opAt 91).dst _).eval (.tmp 193) = vi ((20 + c.k : Nat) : Int)
  rw [hd, eval_put_same _ _ _ (by rw [hb.size]; decide)]
omit hc in
theorem st_90 : StepOK Tryz.prog ops5 Q (lawOf c) c.B 90 := by
  intro o listed a w F M ho hun hall hb hB hsh hM hlive hdis
  obtain ⟨hi, rfl⟩ := at_of ho
  refine wpOp_of ho (dst_is 90 hi).2 ?_
  have hd : (opAt 90).dst = some 192 := by kernel_rfl
  obtain ⟨h85, h85F⟩ := hlive 85 (by show 85 ∈ [85, 89]; decide)
  have e89 : a.eval (.tmp 191) = vnil := (hlive 89 (by show 89 ∈ [85, 89]; decide)).1
  obtain ⟨g, cp, l, e85, h2, h3, h4, h5⟩ := (h85 : liveK (.ints (20 + c.k)) (a.eval (.tmp 187)) (F 85) w)
  rw [e85] at h4
  have e85' : a.eval (.tmp 187) = .slice (some ⟨g, 0, none⟩) (20 + c.k) cp := e85
  have hop : (opAt 90).op = .call { callee := .builtin .append, args := #[.tmp 187, .tmp 191], argTypes := #[29, 29] } := by kernel_rfl
  have hr := r_app_none a w (opAt 90) (.tmp 187) (.tmp 191) hop _ _ _ e85' e89 h4
  unfold Oper.wp
  rw [hr]
  refine ⟨_, F 85, M, rfl, hb.put hi hb.below, ⟨fun _ => ⟨some ⟨g, 0, none⟩, cp, ?_⟩, hsh.mine⟩, ?_, Nat.le_refl _, fun b h => ⟨(h85F b h).1, (h85F b h).2.1, (h85F b h).2.2, Or.inr ⟨85, by show 85 ∈ [85, 89]; decide, h⟩⟩, fun b h => ⟨(hM b h).2, (hM b h).1, Or.inl h⟩, fun b _ _ _ => rfl⟩
  · rw [hd, eval_put_same _ _ _ (by rw [hb.size]; decide)]
  · show liveK (.ints (20 + c.k)) ((a.put (opAt 90).dst _).eval (.tmp 192)) (F 85) w
    rw [hd, eval_put_same _ _ _ (by rw [hb.size]; decide)]
    exact ⟨g, cp, l, rfl, h2, h3, h4, h5⟩
theorem steps (i : Nat) (hi : i < ops5.size) : StepOK Tryz.prog ops5 Q (lawOf c) c.B i := by
  rw [ops5_size] at hi
  match i, hi with
  | 0, _ => exact st_0 hc
  | 1, _ => exact st_1 hc
  | 2, _ => exact st_2 hc
  | 3, _ => exact st_3 hc
  | 4, _ => exact st_4 hc
  | 5, _ => exact st_5 hc
  | 6, _ => exact st_6 hc
  | 7, _ => exact st_7 hc
  | 8, _ => exact st_8 hc
  | 9, _ => exact st_9 hc
  | 10, _ => exact st_10 hc
  | 11, _ => exact st_11 hc
  | 12, _ => exact st_12 hc
  | 13, _ => exact st_13 hc
  | 14, _ => exact st_14 hc
  | 15, _ => exact st_15 hc
  | 16, _ => exact st_16 hc
  | 17, _ => exact st_17 hc
  | 18, _ => exact st_18 hc
  | 19, _ => exact st_19 hc
  | 20, _ => exact st_20 hc
  | 21, _ => exact st_21 hc
  | 22, _ => exact st_22 hc
  | 23, _ => exact st_23 hc
  | 24, _ => exact st_24 hc
  | 25, _ => exact st_25 hc
  | 26, _ => exact st_26 hc
  | 27, _ => exact st_27 hc
  | 28, _ => exact st_28 hc
  | 29, _ => exact st_29 hc
  | 30, _ => exact st_30 hc
  | 31, _ => exact st_31 hc
  | 32, _ => exact st_32 hc
  | 33, _ => exact st_33 hc
  | 34, _ => exact st_34 hc
  | 35, _ => exact st_35 hc
  | 36, _ => exact st_36 hc
  | 37, _ => exact st_37 hc
  | 38, _ => exact st_38 hc
  | 39, _ => exact st_39 hc
  | 40, _ => exact st_40 hc
  | 41, _ => exact st_41 hc
  | 42, _ => exact st_42 hc
  | 43, _ => exact st_43 hc
  | 44, _ => exact st_44 hc
  | 45, _ => exact st_45 hc
  | 46, _ => exact st_46 hc
  | 47, _ => exact st_47 hc
  | 48, _ => exact st_48 hc
  | 49, _ => exact st_49 hc
  | 50, _ => exact st_50 hc
  | 51, _ => exact st_51 hc
  | 52, _ => exact st_52 hc
  | 53, _ => exact st_53 hc
  | 54, _ => exact st_54 hc
  | 55, _ => exact st_55 hc
  | 56, _ => exact st_56 hc
  | 57, _ => exact st_57 hc
  | 58, _ => exact st_58 hc
  | 59, _ => exact st_59 hc
  | 60, _ => exact st_60 hc
  | 61, _ => exact st_61 hc
  | 62, _ => exact st_62 hc
  | 63, _ => exact st_63 hc
  | 64, _ => exact st_64 hc
  | 65, _ => exact st_65 hc
  | 66, _ => exact st_66 hc
  | 67, _ => exact st_67 hc
  | 68, _ => exact st_68 hc
  | 69, _ => exact st_69 hc
  | 70, _ => exact st_70 hc
  | 71, _ => exact st_71 hc
  | 72, _ => exact st_72 hc
  | 73, _ => exact st_73 hc
  | 74, _ => exact st_74 hc
  | 75, _ => exact st_75 hc
  | 76, _ => exact st_76 hc
  | 77, _ => exact st_77 hc
  | 78, _ => exact st_78 hc
  | 79, _ => exact st_79 hc
  | 80, _ => exact st_80 hc
  | 81, _ => exact st_81 hc
  | 82, _ => exact st_82 hc
  | 83, _ => exact st_83 hc
  | 84, _ => exact st_84 hc
  | 85, _ => exact st_85 hc
  | 86, _ => exact st_86 hc
  | 87, _ => exact st_87 hc
  | 88, _ => exact st_88 hc
  | 89, _ => exact st_89 hc
  | 90, _ => exact st_90
  | 91, _ => exact st_91
  | 92, _ => exact st_92
  | i + 93, h => exact absurd h (by omega)

theorem nums_region {id : Nat} {a : Act} {w : World} (hb : BaseOf c a w)
    (hQ : ∀ (a' : Act) (w' : World) (g cp : Nat) (l : List Int), BaseOf c a' w' → a'.eval (.tmp 192) = .slice (some ⟨g, 0, none⟩) (20 + c.k) cp → a'.eval (.tmp 193) = vi ((20 + c.k : Nat) : Int) → a'.eval (.tmp 194) = vi 0 → l.length = 20 + c.k → (∀ x ∈ l, -16000 ≤ x ∧ x ≤ 16000) → (∀ (j : Nat) (x : Int), l[j]? = some x → w'.cell? ⟨g, j, none⟩ = some (.int .i64 x)) → Q .normal a' w') :
    (Code.region id ops5 true).wp Tryz.prog Q a w := by
  refine wp_region_own (L := lawOf c) (B := c.B) (by kernel_rfl) (lawOf_tidy c) (lawOf_stable c) (steps hc) ?_ ?_
  · intro listed a' w' hI hr
    have hsz : listed.size = 93 := by rw [hI.size, ops5_size]
    have hall := all_listed hsz hr
    obtain ⟨F, M, hsh, hM, hlive, _⟩ := hI.feet
    have hno : ∀ t, (t = 90 ∨ t = 91 ∨ t = 92) → ¬ Taken (lawOf c) listed t := by
      rintro t ht ⟨i, _, h2⟩
      have h : ∀ i, i < 93 → ∀ t ∈ [90, 91, 92], t ∉ takesL.getD i [] := by decide +kernel
      exact h i (takes_lt h2) t (by rcases ht with rfl | rfl | rfl <;> decide) h2
    have l90 := (hlive 90 ⟨hall 90 (by decide), hno 90 (by omega)⟩).1
    have l91 := (hlive 91 ⟨hall 91 (by decide), hno 91 (by omega)⟩).1
    have l92 := (hlive 92 ⟨hall 92 (by decide), hno 92 (by omega)⟩).1
    obtain ⟨g, cp, l, e90, h2, h3, h4, h5⟩ := (l90 : liveK (.ints (20 + c.k)) (a'.eval (.tmp 192)) (F 90) w')
    refine hQ a' w' g cp l hI.base e90 l91 l92 h2 h3 fun j x hx => ?_
    have hj := (List.getElem?_eq_some_iff.1 hx).1
    rw [e90] at h4
    rw [h4.cellAt j (by omega)]
    simp [hx]
  · refine ⟨by rw [Array.size_replicate], ⟨hb.size, hb.defers, hb.t0, hb.t4, hb.t2, hb.below.drew⟩, by show c.B ≤ w.heap.size; have := hb.below.size; rw [hc.base] at this; exact this, fun _ _ => False, fun b => False, ⟨fun h => ?_, fun b h => h⟩, fun b h => h.elim, fun j hj => ?_, fun j k hj => ?_⟩
    · rw [rep_false] at h; cases h
    · have := hj.1
      rw [rep_false] at this; cases this
    · have := hj.1
      rw [rep_false] at this; cases this
end
end Go.Proofs.YtgggpllmgnpngaaGreatDoor.Tb.F5
