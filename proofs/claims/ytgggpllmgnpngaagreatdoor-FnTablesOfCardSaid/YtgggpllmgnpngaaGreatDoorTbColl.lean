/- A map's keys gathered; a row rewritten. -/
import Derived.Test.YtgggpllmgnpngaaGreatDoorTbRaw
import Derived.Sort.Grow
namespace Go.Proofs.YtgggpllmgnpngaaGreatDoor.Tb
open Go Go.RowKit

/-- Keys gathered so far. -/
structure Coll (k : TypeId) (key : Nat → Lit) (b r n : Nat) (D : DataW Value) (P : List Nat) (cnt : Nat) (W : World) : Prop where
  rng : ∃ left, W.ranges Tryz.prog k hv b r n D left cnt ∧ (∀ i, i < 8 → left (key i) = decide (i ∉ P)) ∧ (∀ kl, left kl = true → ∃ i, i < 8 ∧ kl = key i)
  nodup : P.Nodup
  in8 : ∀ i ∈ P, i < 8

theorem Coll.start {k : TypeId} {key : Nat → Lit} {b r n : Nat} {D : DataW Value} {val : Nat → Value} {S : List Nat} {W : World} (h : W.ranges Tryz.prog k hv b r n D (Maps.has D) (Maps.size D)) (hm : MapIs key val S D) (hS : ∀ i, i ∈ S ↔ i < 8) : Coll k key b r n D [] (Maps.size D) W :=
  ⟨⟨_, h, fun i hi => by simp [hm.has i ((hS i).2 hi)], fun kl hk => by
    obtain ⟨i, hi, e⟩ := hm.only kl hk
    exact ⟨i, (hS i).1 hi, e⟩⟩, List.nodup_nil, by simp⟩
theorem perm_eight {P : List Nat} (h1 : P.Nodup) (h2 : ∀ i ∈ P, i < 8) (h3 : ∀ i, i < 8 → i ∈ P) : P.Perm (List.range 8) := by
  refine (List.perm_ext_iff_of_nodup h1 List.nodup_range).2 fun i => ?_
  rw [List.mem_range]
  exact ⟨h2 i, h3 i⟩
theorem Coll.len {k : TypeId} {key : Nat → Lit} {b r n cnt : Nat} {D : DataW Value} {P : List Nat} {W : World} (h : Coll k key b r n D P cnt W) : P.length ≤ 8 := by
  have hs : P ⊆ List.range 8 := fun i hi => List.mem_range.2 (h.in8 i hi)
  have := List.Nodup.length_le_of_subset h.nodup hs
  simpa using this
theorem Coll.kept {k : TypeId} {key : Nat → Lit} {b r n cnt : Nat} {D : DataW Value} {P : List Nat} {W W' : World} {row : Option Nat} (h : Coll k key b r n D P cnt W) (hg : W.grownBy W' row) (hb : some b ≠ row) (hr : some r ≠ row) : Coll k key b r n D P cnt W' := by
  obtain ⟨left, h1, h2, h3⟩ := h.rng
  exact ⟨⟨left, h1.kept hg hb hr, h2, h3⟩, h.nodup, h.in8⟩
theorem grown_of_kept {w w' : World} {g : Nat} (h : Kept (fun q => q = g) w w') : w.grownBy w' (some g) := ⟨h.os, h.tape, h.output, h.size, fun q hq hn => h.block q hq (fun e => hn (by rw [e]))⟩
theorem grown_of_below {w w' : World} (h : Below w.heap.size w w') : w.grownBy w' none := ⟨h.os, h.tape, h.output, h.size, fun q hq _ => h.block q hq⟩

/-- The step of a range over a map. -/
theorem wpList_next_coll {w : World} {ops : Array Oper} {rest : List Oper} {o : Oper} {a : Act} {Q : Exit → Act → World → Prop} {α : Type} (hg : o.guard = none) (it : Operand) (hop : o.op = Op.next it false) (k : TypeId) (K : Maps.Keyed Tryz.prog k) (mkK : α → Value) (key : Nat → Lit) (kv : Nat → Value)
    (invK : ∀ key kl, keyOf Tryz.prog k key = some kl → ∃ x, key = mkK x) (hkv : ∀ i x, i < 8 → keyOf Tryz.prog k (mkK x) = some (key i) → mkK x = kv i) (hsame : ∀ i j, i < 8 → j < 8 → (key i).sameKey (key j) = decide (i = j))
    (b r n cnt : Nat) (D : DataW Value) (P : List Nat)
    (hit : a.eval it = .pointer (some ⟨r, 0, none⟩)) (h : Coll k key b r n D P cnt w)
    (hDone : P.Perm (List.range 8) → wpList Tryz.prog ops Q rest (a.put o.dst (.tuple #[.bool false])) w)
    (hMore : ∀ (i : Nat) (v : Value) (w' : World) (cnt' : Nat), i < 8 → i ∉ P → Coll k key b r n D (P ++ [i]) cnt' w' → cnt' < cnt → w.grownBy w' (some r) → w'.heap.size = w.heap.size → (Instr.entry (.pointer (some ⟨r, 0, none⟩))).run Tryz.prog w' = .ok (.tuple #[kv i, v]) w' → wpList Tryz.prog ops Q rest (a.put o.dst (.tuple #[.bool true, kv i, v])) w') :
    wpList Tryz.prog ops Q (o :: rest) a w := by
  obtain ⟨left, h1, h2, h3⟩ := h.rng
  refine wpList_next_ranges w hg it hop k K hv mkK (fun v : Value => v) invK (fun v y _ => ⟨v, rfl⟩) b r n D left cnt hit h1 (fun _ hl => hDone (perm_eight h.nodup h.in8 fun i hi => ?_)) ?_
  · have := h2 i hi
    rw [hl] at this
    simpa using this.symm
  · intro x c kl y w' cnt' hkey hlk hv' hat hrg hlt hgr hsz hen
    obtain ⟨i, hi, rfl⟩ := h3 kl hlk
    have hx := hkv i x hi hkey
    rw [hx] at hen ⊢
    have hnot : i ∉ P := by
      have := h2 i hi
      rw [hlk] at this
      simpa using this.symm
    refine hMore i c w' cnt' hi hnot ⟨⟨_, hrg, fun j hj => ?_, fun kl hk => ?_⟩, ?_, ?_⟩ hlt hgr hsz hen
    · rw [h2 j hj, hsame j i hj hi]
      by_cases e : j = i
      · subst e; simp
      · simp [e]
    · simp only [Bool.and_eq_true] at hk
      exact h3 kl hk.1
    · exact List.nodup_append.2 ⟨h.nodup, by simp, fun a ha c hc e => by simp at hc; subst hc; subst e; exact hnot ha⟩
    · intro j hj
      rcases List.mem_append.1 hj with hj | hj
      · exact h.in8 j hj
      · simp at hj; omega

section
open Go.Sort
variable {α : Type} [Inhabited α]
/-- A row rewritten, new blocks behind: what lies below. -/
theorem below_put {B : Nat} {w W : World} (h : Below B w W) (hBw : B ≤ W.heap.size) (enc : α → Value) (g n : Nat) (d : Array α) (os : Array Obj) (hB : B ≤ g) : Below B w (grow (putRow enc (Sort.ahead W n) g 0 d) os) := by
  have hsz : (putRow enc (Sort.ahead W n) g 0 d).heap.size = W.heap.size := by simp [putRow, mapBlock, Sort.ahead]
  refine ⟨h.os, h.tape, h.output, ?_, fun k hk => ?_⟩
  · have := h.size
    show w.heap.size ≤ ((putRow enc (Sort.ahead W n) g 0 d).heap ++ os).size
    rw [Array.size_append, hsz]
    omega
  · rw [← h.block k hk]
    rw [heap_grow_old _ _ (by rw [hsz]; omega)]
    simp only [putRow, mapBlock, Sort.ahead, Array.getElem?_modify]
    rw [if_neg (by omega)]
end
end Go.Proofs.YtgggpllmgnpngaaGreatDoor.Tb
