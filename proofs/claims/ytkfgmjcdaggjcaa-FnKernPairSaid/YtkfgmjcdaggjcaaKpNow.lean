/- The row of triples in memory, and what a comparison says. -/
import Derived.Test.YtkfgmjcdaggjcaaProg
import Derived.Test.YtkfgmjcdaggjcaaKpRow
import Derived.WalkKit
import Derived.WalkSmall
import Derived.Deep.LoopGhost
import Derived.Deep.DeepMust
import Derived.Deep.CutBlock
import Derived.Deep.CutRange
import Derived.Deep.DeepCutAuto
import Derived.KernelRfl
import Derived.Lib.Hide
import Derived.Lib.OthersKept
import Derived.Deep.RegionWith
import Derived.StillTailTactics
import Derived.Deep.QuietTactic
import Derived.BigQuiet
namespace Go.Proofs.Ytkfgmjcdaggjcaa.Kp
open Go Go.RowKit

theorem own_block {w w' : World} {base n : Nat} {e : TypeId} {size : Nat} {v : Value} {xs : List Value} (h : w.ownsRow base e size v n xs) (hk : ∀ k, v.ownBlock = some k → w'.heap[k]? = w.heap[k]?) : w'.ownsRow base e size v n xs := by
  obtain ⟨hl, h | ⟨g, cap, cur, hv, hb, hg, hrest⟩⟩ := h
  · exact ⟨hl, .inl h⟩
  · exact ⟨hl, .inr ⟨g, cap, cur, hv, hb, (hk g (by rw [hv]; rfl)).trans hg, hrest⟩⟩
theorem own_drew {w : World} {base n : Nat} {e : TypeId} {size : Nat} {v : Value} {xs : List Value} (h : w.ownsRow base e size v n xs) : w.drew.ownsRow base e size v n xs := h

/-- The row holds these triples. -/
structure Now (base g n cap : Nat) (l : List Tri) (w W : World) : Prop where
  own : W.ownsRow base 27 3 (.slice (some ⟨g, 0, none⟩) n cap) n (triCells l)
  below : Below base w W
  low : base ≤ W.heap.size

section
variable {base g n cap : Nat} {l : List Tri} {w W : World}

theorem Now.len (h : Now base g n cap l w W) : l.length = n := by
  have := h.own.1
  rw [triCells_len] at this
  omega
theorem Now.at_ (h : Now base g n cap l w W) {j : Nat} {t : Tri} (ht : l[j]? = some t) : W.cell? ⟨g, j * 3, none⟩ = some (.int .i64 (t.a : Nat)) ∧ W.cell? ⟨g, j * 3 + 1, none⟩ = some (.int .i64 (t.b : Nat)) ∧ W.cell? ⟨g, j * 3 + 2, none⟩ = some (.int .i64 t.v) := by
  have hl := h.len
  have hj := (List.getElem?_eq_some_iff.1 ht).1
  have hc := triCells_get l j t ht
  refine ⟨?_, ?_, ?_⟩
  · rw [h.own.cellAt _ (by omega)]; exact hc.1
  · rw [h.own.cellAt _ (by omega)]; exact hc.2.1
  · rw [h.own.cellAt _ (by omega)]; exact hc.2.2
theorem Now.drewn (h : Now base g n cap l w W) (q : Nat) : Now base g n cap l w (W.drewN q) := ⟨h.own, below_drewN h.below q, h.low⟩
theorem Now.later (h : Now base g n cap l w W) {W' : World} (hb : Below W.heap.size W W') : Now base g n cap l w W' :=
  ⟨own_block h.own (fun q hq => hb.block q (h.own.lt q hq).2), h.below.trans (hb.mono h.low), Nat.le_trans h.low hb.size⟩
theorem Now.swap {i j : Nat} {x y : Tri} {xa xb ya yb : Nat} {xv yv : Int} (h : Now base g n cap l w W) (hq : xa = x.a ∧ xb = x.b ∧ xv = x.v ∧ ya = y.a ∧ yb = y.b ∧ yv = y.v) :
    Now base g n cap ((l.set i y).set j x) w ((((((W.setCell ⟨g, i * 3, none⟩ (.int .i64 ya)).setCell ⟨g, i * 3 + 1, none⟩ (.int .i64 yb)).setCell ⟨g, i * 3 + 2, none⟩ (.int .i64 yv)).setCell ⟨g, j * 3, none⟩ (.int .i64 xa)).setCell ⟨g, j * 3 + 1, none⟩ (.int .i64 xb)).setCell ⟨g, j * 3 + 2, none⟩ (.int .i64 xv)).drew := by
  obtain ⟨rfl, rfl, rfl, rfl, rfl, rfl⟩ := hq
  have o1 := (h.own.stored (i * 3) (.int .i64 (y.a : Nat))).1
  have o2 := (o1.stored (i * 3 + 1) (.int .i64 (y.b : Nat))).1
  have o3 := (o2.stored (i * 3 + 2) (.int .i64 y.v)).1
  have o4 := (o3.stored (j * 3) (.int .i64 (x.a : Nat))).1
  have o5 := (o4.stored (j * 3 + 1) (.int .i64 (x.b : Nat))).1
  have o6 := (o5.stored (j * 3 + 2) (.int .i64 x.v)).1
  have hb : base ≤ g := (h.own.lt g rfl).1
  refine ⟨?_, ?_, ?_⟩
  · rw [triCells_set, triCells_set]
    exact own_drew o6
  · exact ((((((h.below.setCell hb _).setCell hb _).setCell hb _).setCell hb _).setCell hb _).setCell hb _).drew
  · have := h.low; simpa using this
end

/-- The comparison: less than nothing just where the first's key is the lesser. -/
theorem cmp_any (x y : Tri) (hx : x.Ok) (hy : y.Ok) (w : World) :
    Calls Try.prog 5 #[.agg #[.int .i64 x.a, .int .i64 x.b, .int .i64 x.v], .agg #[.int .i64 y.a, .int .i64 y.b, .int .i64 y.v]] w fun e w' => (∃ r : Int, e = .returned (.int .i64 r) ∧ (r < 0 ↔ x.key < y.key)) ∧ Below w.heap.size w w' := by
  have hb : Below w.heap.size w ((w.alloc (.cells #[.int .i64 x.a, .int .i64 x.b, .int .i64 x.v] 27)).alloc (.cells #[.int .i64 y.a, .int .i64 y.b, .int .i64 y.v] 27)) := ((Below.refl _ _).alloc (Nat.le_refl _) _).alloc (by simp) _
  have HB := Lib.hid hb
  have h1 := hx.a
  have h2 := hx.b
  have h3 := hy.a
  have h4 := hy.b
  have HK : Hid ((((x.a : Int) - y.a) * 100 + x.b - y.b) < 0 ↔ x.key < y.key) := Lib.hid (by unfold Tri.key; omega)
  generalize x.key = kx at *
  generalize y.key = ky at *
  generalize x.a = xa at *
  generalize x.b = xb at *
  generalize x.v = xv at *
  generalize y.a = ya at *
  generalize y.b = yb at *
  generalize y.v = yv at *
  clear hb hx hy
  go_enter Try.func5, Try.ntmps5
  go_wp2
  go_ret
  exact ⟨⟨_, rfl, HK.out⟩, HB.out⟩
end Go.Proofs.Ytkfgmjcdaggjcaa.Kp
