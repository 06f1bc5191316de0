/- Rows of cells, rows of rows, and what has come in. -/
import Derived.Test.YtgggpllmgnpngaaGreatDoorProg
import Derived.WalkKit
import Derived.WalkSmall
import Derived.Deep.LoopGhost
import Derived.Deep.DeepMust
import Derived.Deep.CutBlock
import Derived.Deep.CutRange
import Derived.Deep.DeepCutAuto
import Derived.KernelRfl
import Derived.Lib.Hide
import Derived.Lib.OthersKept
import Derived.Deep.RegionWith
import Derived.Deep.AppendLies
import Derived.Deep.RegionHeld3
import Derived.StillTailTactics
import Derived.Deep.QuietTactic
import Derived.BigQuiet
import Derived.Maps.AppendAt
import Derived.Deep.RegionLaw
import Derived.BigRegion
namespace Go.Proofs.YtgggpllmgnpngaaGreatDoor.Tb
open Go Go.RowKit

/-- All else is as it was. -/
structure Kept (S : Nat → Prop) (w w' : World) : Prop where
  os : w'.os = w.os
  tape : w'.tape = w.tape
  output : w'.output = w.output
  size : w.heap.size ≤ w'.heap.size
  block : ∀ k, k < w.heap.size → ¬ S k → w'.heap[k]? = w.heap[k]?

theorem Kept.refl (S : Nat → Prop) (w : World) : Kept S w w := ⟨rfl, rfl, rfl, Nat.le_refl _, fun _ _ _ => rfl⟩
theorem Kept.trans {S S1 : Nat → Prop} {w w1 w2 : World} (h : Kept S w w1) (k : Kept S1 w1 w2) (hs : ∀ q, q < w.heap.size → S1 q → S q) : Kept S w w2 :=
  ⟨k.os.trans h.os, k.tape.trans h.tape, k.output.trans h.output, Nat.le_trans h.size k.size, fun q hq hn => (k.block q (Nat.lt_of_lt_of_le hq h.size) (fun h1 => hn (hs q hq h1))).trans (h.block q hq hn)⟩
theorem Kept.below {S : Nat → Prop} {B : Nat} {a w w' : World} (h : Below B a w) (k : Kept S w w') (hB : B ≤ w.heap.size) (hs : ∀ q, q < B → ¬ S q) : Below B a w' :=
  ⟨k.os.trans h.os, k.tape.trans h.tape, k.output.trans h.output, Nat.le_trans h.size k.size, fun q hq => (k.block q (Nat.lt_of_lt_of_le hq hB) (hs q hq)).trans (h.block q hq)⟩
theorem own_block {w w' : World} {base n : Nat} {e : TypeId} {size : Nat} {v : Value} {xs : List Value} (h : w.ownsRow base e size v n xs) (hk : ∀ k, v.ownBlock = some k → w'.heap[k]? = w.heap[k]?) : w'.ownsRow base e size v n xs := by
  obtain ⟨hl, h | ⟨g, cap, cur, hv, hb, hg, hrest⟩⟩ := h
  · exact ⟨hl, .inl h⟩
  · exact ⟨hl, .inr ⟨g, cap, cur, hv, hb, (hk g (by rw [hv]; rfl)).trans hg, hrest⟩⟩
theorem Kept.own {S : Nat → Prop} {w w' : World} {base n : Nat} {e : TypeId} {size : Nat} {v : Value} {xs : List Value} (k : Kept S w w') (h : w.ownsRow base e size v n xs) (hs : ∀ q, v.ownBlock = some q → ¬ S q) : w'.ownsRow base e size v n xs :=
  own_block h (fun q hq => k.block q (h.lt q hq).2 (hs q hq))
theorem Kept.sub {S S1 : Nat → Prop} {w w1 : World} (h : Kept S w w1) (hs : ∀ q, q < w.heap.size → S q → S1 q) : Kept S1 w w1 :=
  ⟨h.os, h.tape, h.output, h.size, fun q hq hn => h.block q hq (fun h1 => hn (hs q hq h1))⟩
theorem kept_of_below {w w' : World} (h : Below w.heap.size w w') : Kept (fun _ => False) w w' := ⟨h.os, h.tape, h.output, h.size, fun q hq _ => h.block q hq⟩
theorem kept_of_grown {w w' : World} {row : Option Nat} (h : w.grownBy w' row) : Kept (fun q => some q = row) w w' := ⟨h.os, h.tape, h.output, h.size, fun q hq hn => h.block q hq hn⟩
theorem kept_set (w : World) (g j : Nat) (v : Value) : Kept (fun q => q = g) w (w.setCell ⟨g, j, none⟩ v) :=
  ⟨rfl, rfl, rfl, by rw [World.size_setCell]; exact Nat.le_refl _, fun q _ hn => Below.heap_setCell _ _ _ _ hn⟩
theorem Kept.cell {S : Nat → Prop} {w w' : World} (k : Kept S w w') {g j : Nat} {x : Value} (h : w.cell? ⟨g, j, none⟩ = some x) (hs : ¬ S g) : w'.cell? ⟨g, j, none⟩ = some x :=
  (World.cell?_of_block (k.block g (World.block_lt_of_cell? w _ h) hs)).trans h
theorem own_mono {w : World} {base base' n : Nat} {e : TypeId} {size : Nat} {v : Value} {xs : List Value} (h : w.ownsRow base e size v n xs) (hb : base' ≤ base) : w.ownsRow base' e size v n xs := by
  obtain ⟨hl, h | ⟨g, cap, cur, hv, hg, hrest⟩⟩ := h
  · exact ⟨hl, .inl h⟩
  · exact ⟨hl, .inr ⟨g, cap, cur, hv, Nat.le_trans hb hg, hrest⟩⟩

/-- A slice whose elements are these cells; its block is none of S. -/
def Row (S : Nat → Prop) (w : World) (v : Value) (n : Nat) (cs : List Value) : Prop :=
  ∃ A cap, v = .slice A n cap ∧ n ≤ cap ∧ cap ≤ 9223372036854775807 ∧ (n = 0 → cs = []) ∧ (0 < n → ∃ g, A = some ⟨g, 0, none⟩ ∧ g < w.heap.size ∧ ¬ S g ∧ ∀ j x, cs[j]? = some x → w.cell? ⟨g, j, none⟩ = some x)

theorem Row.kept {S S1 : Nat → Prop} {w w' : World} {v : Value} {n : Nat} {cs : List Value} (h : Row S w v n cs) (k : Kept S1 w w') (hs : ∀ q, q < w.heap.size → S1 q → S q) : Row S w' v n cs := by
  obtain ⟨A, cap, hv, h1, h2, h0, h3⟩ := h
  refine ⟨A, cap, hv, h1, h2, h0, fun hn => ?_⟩
  obtain ⟨g, hA, hg, hS, hc⟩ := h3 hn
  exact ⟨g, hA, Nat.lt_of_lt_of_le hg k.size, hS, fun j x hx => (World.cell?_of_block (k.block g hg (fun h => hS (hs g hg h)))).trans (hc j x hx)⟩
theorem Row.sub {S S1 : Nat → Prop} {w : World} {v : Value} {n : Nat} {cs : List Value} (h : Row S w v n cs) (hs : ∀ q, q < w.heap.size → S1 q → S q) : Row S1 w v n cs := by
  obtain ⟨A, cap, hv, h1, h2, h0, h3⟩ := h
  refine ⟨A, cap, hv, h1, h2, h0, fun hn => ?_⟩
  obtain ⟨g, hA, hg, hS, hc⟩ := h3 hn
  exact ⟨g, hA, hg, fun h => hS (hs g hg h), hc⟩
theorem Row.below {S : Nat → Prop} {w w' : World} {v : Value} {n : Nat} {cs : List Value} (h : Row S w v n cs) (k : Below w.heap.size w w') : Row S w' v n cs :=
  h.kept (kept_of_below k) (fun _ _ h => h.elim)
theorem row_nil (S : Nat → Prop) (w : World) : Row S w (.slice none 0 0) 0 [] := ⟨none, 0, rfl, Nat.le_refl _, by omega, fun _ => rfl, fun h => by omega⟩
theorem row_of_own {S : Nat → Prop} {w : World} {base n : Nat} {e : TypeId} {size : Nat} {v : Value} {xs : List Value} (h : w.ownsRow base e size v n xs) (hs : ∀ q, v.ownBlock = some q → ¬ S q) : Row S w v n xs := by
  have hl := h.1
  have h' := h
  obtain ⟨_, ⟨rfl, rfl⟩ | ⟨g, cap, cur, rfl, hb, hg, h1, h2, h3⟩⟩ := h
  · exact ⟨none, 0, rfl, Nat.le_refl _, by omega, fun _ => List.eq_nil_of_length_eq_zero (by omega), fun h => by omega⟩
  · refine ⟨_, cap, rfl, h1, by unfold maxLen at h2; omega, fun h0 => List.eq_nil_of_length_eq_zero (by rw [hl, h0]; simp), fun _ => ⟨g, rfl, (h'.lt g rfl).2, hs g rfl, fun j x hx => ?_⟩⟩
    have hj := (List.getElem?_eq_some_iff.1 hx).1
    rw [h'.cellAt j (by omega)]
    exact hx
theorem Row.len {S : Nat → Prop} {w : World} {v : Value} {n : Nat} {cs : List Value} (h : Row S w v n cs) : ∃ A cap, v = .slice A n cap ∧ n ≤ cap ∧ cap ≤ 9223372036854775807 := by
  obtain ⟨A, cap, hv, h1, h2, _⟩ := h
  exact ⟨A, cap, hv, h1, h2⟩

/-- A row of things, each with a value of its own. -/
def Rows' {α : Type} (R : (Nat → Prop) → World → Value → α → Prop) (S : Nat → Prop) (w : World) (v : Value) (xs : List α) : Prop :=
  ∃ vs : List Value, vs.length = xs.length ∧ Row S w v xs.length vs ∧ ∀ (i : Nat) (u : Value) (x : α), vs[i]? = some u → xs[i]? = some x → R S w u x

structure Good {α : Type} (R : (Nat → Prop) → World → Value → α → Prop) : Prop where
  kept : ∀ {S S1 : Nat → Prop} {w w' : World} {v : Value} {x : α}, R S w v x → Kept S1 w w' → (∀ q, q < w.heap.size → S1 q → S q) → R S w' v x
  sub : ∀ {S S1 : Nat → Prop} {w : World} {v : Value} {x : α}, R S w v x → (∀ q, q < w.heap.size → S1 q → S q) → R S1 w v x

theorem Good.rows {α : Type} {R : (Nat → Prop) → World → Value → α → Prop} (h : Good R) : Good (Rows' R) where
  kept := fun ⟨vs, h1, h2, h3⟩ k hs => ⟨vs, h1, h2.kept k hs, fun i u x hu hx => h.kept (h3 i u x hu hx) k hs⟩
  sub := fun ⟨vs, h1, h2, h3⟩ hs => ⟨vs, h1, h2.sub hs, fun i u x hu hx => h.sub (h3 i u x hu hx) hs⟩

/-- Such a row that is still growing; none of its parts lies in E. -/
structure Grows {α : Type} (R : (Nat → Prop) → World → Value → α → Prop) (E : Nat → Prop) (base : Nat) (t : TypeId) (w : World) (v : Value) (xs : List α) (vs : List Value) : Prop where
  own : w.ownsRow base t 1 v xs.length vs
  each : ∀ (i : Nat) (u : Value) (x : α), vs[i]? = some u → xs[i]? = some x → R (fun q => E q ∨ some q = v.ownBlock) w u x

section
variable {α : Type} {R : (Nat → Prop) → World → Value → α → Prop} {E : Nat → Prop} {base : Nat} {t : TypeId} {w w' : World} {v v' u : Value} {xs : List α} {vs : List Value} {x : α}
theorem Grows.len (h : Grows R E base t w v xs vs) : vs.length = xs.length := by
  have := h.own.1; omega
theorem Grows.kept (hR : Good R) (h : Grows R E base t w v xs vs) (k : Below w.heap.size w w') : Grows R E base t w' v xs vs :=
  ⟨own_block h.own (fun q hq => k.block q (h.own.lt q hq).2), fun i u x hu hx => hR.kept (h.each i u x hu hx) (kept_of_below k) (fun _ _ h => h.elim)⟩
theorem Grows.set (hR : Good R) (h : Grows R E base t w v xs vs) {g j : Nat} (hE : E g) (hg : g < base) (y : Value) : Grows R E base t (w.setCell ⟨g, j, none⟩ y) v xs vs :=
  ⟨own_block h.own (fun q hq => Below.heap_setCell _ _ _ _ (fun e => by have e2 : q = g := e; have := (h.own.lt q hq).1; omega)), fun i u x hu hx => hR.kept (h.each i u x hu hx) (kept_set w g j y) (fun q _ hq => by rw [hq]; exact Or.inl hE)⟩
theorem Grows.snoc (hR : Good R) (h : Grows R E base t w v xs vs)
    (hg : w.grownBy w' v.ownBlock) (ho : w'.ownsRow base t 1 v' (xs.length + 1) (vs ++ [u])) (hv : v'.ownBlock = v.ownBlock ∨ ∃ q, v'.ownBlock = some q ∧ w.heap.size ≤ q) (hu : R (fun q => E q ∨ some q = v.ownBlock) w u x) : Grows R E base t w' v' (xs ++ [x]) (vs ++ [u]) := by
  have key : ∀ {u : Value} {x : α}, R (fun q => E q ∨ some q = v.ownBlock) w u x → R (fun q => E q ∨ some q = v'.ownBlock) w' u x := fun {u x} h1 => by
    rcases hv with e | ⟨q, e, hq⟩
    · rw [e]; exact hR.kept h1 (kept_of_grown hg) (fun _ _ h => Or.inr h)
    · have h2 : R (fun p => (E p ∨ some p = v.ownBlock) ∨ some p = v'.ownBlock) w u x := hR.sub h1 (fun p hp h => by
        rcases h with h | h
        · exact h
        · rw [e] at h; have := Option.some.inj h; omega)
      have h3 := hR.kept h2 (kept_of_grown hg) (fun _ _ h => Or.inl (Or.inr h))
      exact hR.sub h3 (fun p _ h => by
        rcases h with h | h
        · exact Or.inl (Or.inl h)
        · exact Or.inr h)
  refine ⟨by rw [List.length_append, List.length_singleton]; exact ho, fun i u' x' hu' hx' => ?_⟩
  have hl := h.len
  by_cases hi : i < xs.length
  · rw [List.getElem?_append_left (by omega)] at hu' hx'
    exact key (h.each i u' x' hu' hx')
  · have h1 := (List.getElem?_eq_some_iff.1 hu').1
    rw [List.length_append, List.length_singleton] at h1
    have hi2 : i = xs.length := by omega
    subst hi2
    rw [List.getElem?_append_right (by omega)] at hu' hx'
    simp [hl] at hu' hx'
    subst hu' hx'
    exact key hu
theorem Grows.rows (hR : Good R) (h : Grows R E base t w v xs vs) {S : Nat → Prop} (hS : ∀ q, q < w.heap.size → S q → E q ∨ some q = v.ownBlock) (hS2 : ∀ q, v.ownBlock = some q → ¬ S q) : Rows' R S w v xs :=
  ⟨vs, h.len, row_of_own h.own hS2, fun i u x hu hx => hR.sub (h.each i u x hu hx) hS⟩
end

/-- What came in: numbers of 16 bits; bytes; triples; and slices of such. -/
def InI16 (w : World) (A : Option Addr) (n : Nat) : Prop :=
  0 < n → ∃ b off, A = some ⟨b, off, none⟩ ∧ ∀ j, j < n → ∃ x : Int, (-32768 ≤ x ∧ x ≤ 32767) ∧ w.cell? ⟨b, off + j, none⟩ = some (.int .i16 x)
def InU8 (w : World) (A : Option Addr) (n : Nat) : Prop :=
  0 < n → ∃ b off, A = some ⟨b, off, none⟩ ∧ ∀ j, j < n → ∃ x : Nat, x < 256 ∧ w.cell? ⟨b, off + j, none⟩ = some (.int .u8 (x : Nat))
def InAll (P : World → Option Addr → Nat → Prop) (w : World) (A : Option Addr) (n : Nat) : Prop :=
  0 < n → ∃ b off, A = some ⟨b, off, none⟩ ∧ ∀ j, j < n → ∃ A' n' c', n' ≤ 9223372036854775807 ∧ w.cell? ⟨b, off + j, none⟩ = some (.slice A' n' c') ∧ P w A' n'

def OldP (P : World → Option Addr → Nat → Prop) : Prop := ∀ {w w' : World} {A : Option Addr} {n : Nat}, P w A n → Below w.heap.size w w' → P w' A n
theorem below_cell {w w' : World} {p : Addr} {v : Value} (k : Below w.heap.size w w') (h : w.cell? p = some v) : w'.cell? p = some v := (k.cell (World.block_lt_of_cell? w _ h)).trans h
theorem old_i16 : OldP InI16 := fun h k hn => by
  obtain ⟨b, off, e, h⟩ := h hn
  exact ⟨b, off, e, fun j hj => by obtain ⟨x, h1, h2⟩ := h j hj; exact ⟨x, h1, below_cell k h2⟩⟩
theorem old_u8 : OldP InU8 := fun h k hn => by
  obtain ⟨b, off, e, h⟩ := h hn
  exact ⟨b, off, e, fun j hj => by obtain ⟨x, h1, h2⟩ := h j hj; exact ⟨x, h1, below_cell k h2⟩⟩
theorem old_all {P : World → Option Addr → Nat → Prop} (hP : OldP P) : OldP (InAll P) := fun h k hn => by
  obtain ⟨b, off, e, h⟩ := h hn
  exact ⟨b, off, e, fun j hj => by obtain ⟨A', n', c', h0, h1, h2⟩ := h j hj; exact ⟨A', n', c', h0, below_cell k h1, hP h2 k⟩⟩
end Go.Proofs.YtgggpllmgnpngaaGreatDoor.Tb
