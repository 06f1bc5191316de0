/- One operation of a region that draws its order. -/
import Derived.Test.YtgggpllmgnpngaaGreatDoorTbRegion
import Derived.Test.YtgggpllmgnpngaaGreatDoorTbPost
import Derived.Test.YtgggpllmgnpngaaGreatDoorTbTabs
import Derived.StringKeys
namespace Go.Proofs.YtgggpllmgnpngaaGreatDoor.Tb
open Go Go.RowKit

/-- A table of so many bytes, and the blocks that are its own. -/
def TabF (T n : Nat) (F : Foot) (w : World) : Prop := ∃ v bs, bs.length = n ∧ (∀ b ∈ bs, b < 256) ∧ Tab T (T + 1) bs (.slice none 0 0) w v ∧ ∀ b, F b ↔ (b = T ∨ v.ownBlock = some b)

theorem TabF.keep {T n : Nat} {F : Foot} {w w' : World} (h : TabF T n F w) (hs : w.heap.size ≤ w'.heap.size) (hb : ∀ b, F b → w'.heap[b]? = w.heap[b]?) : TabF T n F w' := by
  obtain ⟨v, bs, h1, h2, h3, h4⟩ := h
  have hT := hb T ((h4 T).2 (Or.inl rfl))
  exact ⟨v, bs, h1, h2, ⟨(World.cell?_of_block hT).trans h3.cell, (World.cell?_of_block hT).trans h3.link, (World.frozen?_of_block hT).trans h3.free, (World.frozen?_of_block hT).trans h3.free1, own_block h3.own (fun q hq => hb q ((h4 q).2 (Or.inr hq))), h3.low, Nat.le_trans h3.size hs⟩, h4⟩
theorem TabF.lt {T n : Nat} {F : Foot} {w : World} (h : TabF T n F w) : ∀ b, F b → T ≤ b ∧ b < w.heap.size := fun b hb => by
  obtain ⟨v, bs, h1, h2, h3, h4⟩ := h
  rcases (h4 b).1 hb with rfl | h
  · exact ⟨Nat.le_refl _, by have := h3.size; omega⟩
  · have := h3.own.lt b h; omega

/-- .. written on: what is turned. -/
structure On (F F' : Foot) (w w' : World) : Prop where
  os : w'.os = w.os
  tape : w'.tape = w.tape
  output : w'.output = w.output
  size : w.heap.size ≤ w'.heap.size
  foot : ∀ b, F' b → F b ∨ w.heap.size ≤ b
  block : ∀ b, b < w.heap.size → ¬ F b → w'.heap[b]? = w.heap[b]?

theorem TabF.wrote {T n m : Nat} {F : Foot} {w w' : World} {v v' : Value} {bs new : List Nat} (h1 : bs.length = n) (h2 : ∀ b ∈ bs, b < 256) (h4 : ∀ b, F b ↔ (b = T ∨ v.ownBlock = some b)) (hn : new.length = m) (hy : ∀ b ∈ new, b < 256) (hw : Wrote T (T + 1) (bs ++ new) (.slice none 0 0) v w v' w') :
    ∃ F', TabF T (n + m) F' w' ∧ On F F' w w' := by
  refine ⟨fun b => b = T ∨ v'.ownBlock = some b, ⟨v', bs ++ new, by rw [List.length_append, h1, hn], byte_append h2 hy, hw.tab, fun b => Iff.rfl⟩, hw.kept.os, hw.kept.tape, hw.kept.output, hw.kept.size, fun b hb => ?_, fun b hb hn => hw.kept.block b hb (fun e => ?_)⟩
  · rcases hb with rfl | hb
    · exact Or.inl ((h4 _).2 (Or.inl rfl))
    · rcases hw.born with h | ⟨q, h, hq⟩
      · exact Or.inl ((h4 _).2 (Or.inr (h ▸ hb)))
      · rw [h] at hb
        have := Option.some.inj hb
        exact Or.inr (by omega)
  · rcases e with e | e
    · exact hn ((h4 _).2 (Or.inl e))
    · exact hn ((h4 _).2 (Or.inr e.symm))

theorem long_f (T n : Nat) (F : Foot) (w : World) (x : Int) (hx0 : 0 ≤ x) (hx1 : x < 1000000000000) (hn : n ≤ 90000) (h : TabF T n F w) :
    Calls Tryz.prog 17 #[.pointer (some ⟨T, 0, none⟩), .int .i64 x] w fun e w' => e = .returned (.pointer (some ⟨T, 0, none⟩)) ∧ ∃ F', TabF T (n + 4) F' w' ∧ On F F' w w' := by
  obtain ⟨v, bs, h1, h2, h3, h4⟩ := h
  refine (long_any T (T + 1) bs x (.slice none 0 0) v w hx0 hx1 (by omega) h3).mono ?_
  rintro e w' ⟨rfl, v', hw⟩
  exact ⟨rfl, TabF.wrote h1 h2 h4 (by rw [shorts_len]; rfl) (shorts_byte _) hw⟩

theorem short_f (T n X m : Nat) (F : Foot) (w : World) (vals : List Int) (hm : vals.length = m) (hm3 : m ≤ 20) (hvals : ∀ x ∈ vals, -1000000000000 < x ∧ x < 1000000000000) (hn : n ≤ 90000) (h : TabF T n F w) (hX : X < w.heap.size) (hXF : ¬ F X)
    (hc : ∀ j x, vals[j]? = some x → w.cell? ⟨X, j, none⟩ = some (.int .i64 x)) :
    Calls Tryz.prog 16 #[.pointer (some ⟨T, 0, none⟩), .slice (some ⟨X, 0, none⟩) m m] w fun e w' => e = .returned (.pointer (some ⟨T, 0, none⟩)) ∧ ∃ F', TabF T (n + 2 * m) F' w' ∧ On F F' w w' := by
  obtain ⟨v, bs, h1, h2, h3, h4⟩ := h
  have hr : Row (fun q => q = T ∨ some q = v.ownBlock) w (.slice (some ⟨X, 0, none⟩) m m) m (vals.map fun x => .int .i64 x) := by
    refine ⟨_, m, rfl, Nat.le_refl _, by omega, fun h0 => ?_, fun _ => ⟨X, rfl, hX, fun h => hXF ((h4 X).2 (h.imp id Eq.symm)), fun j x hx => ?_⟩⟩
    · have : vals = [] := List.eq_nil_of_length_eq_zero (by omega)
      rw [this]; rfl
    · rw [List.getElem?_map] at hx
      obtain ⟨y, hy, rfl⟩ := Option.map_eq_some_iff.1 hx
      exact hc j y hy
  refine (short_any T (T + 1) m bs vals (.slice none 0 0) v _ w hm hm3 hvals (by omega) h3 hr).mono ?_
  rintro e w' ⟨rfl, v', hw⟩
  exact ⟨rfl, TabF.wrote h1 h2 h4 (by rw [shorts_len, hm]) (shorts_byte _) hw⟩

theorem tabf_start (w : World) : TabF w.heap.size 0 (fun b => b = w.heap.size) (w.alloc (.cells #[.slice none 0 0, .slice none 0 0] 67)) :=
  ⟨.slice none 0 0, [], rfl, by simp, tab_start w, fun b => by simp [Value.ownBlock]⟩

/-- A row of bytes, and the block that is its own. -/
def RowF (n : Nat) (v : Value) (F : Foot) (w : World) : Prop := ∃ bs, bs.length = n ∧ (∀ b ∈ bs, b < 256) ∧ w.ownsRow 0 5 1 v n (byteCells bs) ∧ ∀ b, F b ↔ v.ownBlock = some b
theorem RowF.keep {n : Nat} {v : Value} {F : Foot} {w w' : World} (h : RowF n v F w) (hb : ∀ b, F b → w'.heap[b]? = w.heap[b]?) : RowF n v F w' := by
  obtain ⟨bs, h1, h2, h3, h4⟩ := h
  exact ⟨bs, h1, h2, own_block h3 (fun q hq => hb q ((h4 q).2 hq)), h4⟩
theorem RowF.lt {n : Nat} {v : Value} {F : Foot} {w : World} (h : RowF n v F w) : ∀ b, F b → b < w.heap.size := fun b hb => by
  obtain ⟨bs, h1, h2, h3, h4⟩ := h
  exact (h3.lt b ((h4 b).1 hb)).2
/-- A table's bytes are a row. -/
theorem TabF.row {T n : Nat} {F : Foot} {w : World} (h : TabF T n F w) : ∃ v F', w.cell? ⟨T, 0, none⟩ = some v ∧ RowF n v F' w ∧ ∀ b, F' b → F b := by
  obtain ⟨v, bs, h1, h2, h3, h4⟩ := h
  have ho := h3.own
  rw [h1] at ho
  exact ⟨v, fun b => v.ownBlock = some b, h3.cell, ⟨bs, h1, h2, own_mono ho (Nat.zero_le _), fun b => Iff.rfl⟩, fun b hb => (h4 b).2 (Or.inr hb)⟩
/-- A new row of bytes made by a call that leaves all else. -/
theorem rowf_of_new {n : Nat} {w0 w w' : World} {v : Value} (h : BytesN w0.heap.size n w' v) (hb : Below w.heap.size w w') (hs : w.heap.size ≤ w0.heap.size) : ∃ F, RowF n v F w' ∧ (∀ b, F b → w.heap.size ≤ b) ∧ On (fun _ => False) F w w' := by
  obtain ⟨bs, h1, h2, h3⟩ := h
  refine ⟨fun b => v.ownBlock = some b, ⟨bs, h1, h2, own_mono h3 (Nat.zero_le _), fun b => Iff.rfl⟩, fun b hb => ?_, hb.os, hb.tape, hb.output, hb.size, fun b hb2 => Or.inr ?_, fun b hlt _ => hb.block b hlt⟩
  · have := (h3.lt b hb).1; omega
  · have := (h3.lt b hb2).1; omega
end Go.Proofs.YtgggpllmgnpngaaGreatDoor.Tb

namespace Go.Proofs.YtgggpllmgnpngaaGreatDoor.Tb
open Go Go.RowKit

def kStr (i : Nat) : Lit := .string (tags.getD i [])
theorem kstr_of (i : Nat) (hi : i < 8) : keyOf Tryz.prog 9 (.string (tag i)) = some (kStr i) := by
  have h2 := tags_size i hi
  exact WideMaps.keyOf_string_mk (P := Tryz.prog) (k := 9) Tryz.underlying9 (s := tag i) (by unfold maxLen; omega)
theorem kstr_same : ∀ i j, i < 8 → j < 8 → (kStr i).sameKey (kStr j) = decide (i = j) := by
  have h : ∀ i, i < 8 → ∀ j, j < 8 → (kStr i).sameKey (kStr j) = decide (i = j) := by decide +kernel
  exact fun i j hi hj => h i hi j hj
theorem kstr_inj {i j : Nat} (hi : i < 8) (hj : j < 8) (h : kStr i = kStr j) : i = j := by
  have h1 := kstr_same i j hi hj
  have h2 := kstr_same j j hj hj
  rw [h, h2] at h1
  simpa using h1.symm
theorem kstr_key (i : Nat) (hi : i < 8) : WideAt.IsKeyLit (kStr i) := (Maps.string_keyed Tryz.underlying9).key (kstr_of i hi)
end Go.Proofs.YtgggpllmgnpngaaGreatDoor.Tb

namespace Go.Proofs.YtgggpllmgnpngaaGreatDoor.Tb
open Go Go.RowKit

/-- The map in block m: the tags of S, a row of bytes for each; the blocks that are its own. -/
def ShF (m : Nat) (S : List Nat) (len : Nat → Nat) (F : Foot) (w : World) : Prop :=
  ∃ D val n, w.ownsMap Tryz.prog 9 hv m n D ∧ n ≤ S.length ∧ MapIs kStr val S D ∧ (∀ i ∈ S, i < 8 ∧ ∃ G, RowF (len i) (val i) G w) ∧ (∀ i ∈ S, ∀ q, (val i).ownBlock = some q → F q) ∧ F m

theorem ShF.keep {m : Nat} {S : List Nat} {len : Nat → Nat} {F : Foot} {w w' : World} (h : ShF m S len F w) (hb : ∀ b, F b → w'.heap[b]? = w.heap[b]?) : ShF m S len F w' := by
  obtain ⟨D, val, n, h1, h2, h3, h4, h5, h6⟩ := h
  refine ⟨D, val, n, own_map_block h1 (hb m h6), h2, h3, fun i hi => ⟨(h4 i hi).1, ?_⟩, h5, h6⟩
  obtain ⟨G, bs, r1, r2, r3, r4⟩ := (h4 i hi).2
  exact ⟨G, bs, r1, r2, own_block r3 (fun q hq => hb q (h5 i hi q hq)), r4⟩

theorem MapIs.perm {key : Nat → Lit} {val : Nat → Value} {S S' : List Nat} {D : DataW Value} (h : MapIs key val S D) (hp : S.Perm S') : MapIs key val S' D :=
  ⟨h.tidy, fun i hi => h.has i (hp.mem_iff.2 hi), fun i hi => h.get i (hp.mem_iff.2 hi), fun kl hk => by obtain ⟨i, h1, h2⟩ := h.only kl hk; exact ⟨i, hp.mem_iff.1 h1, h2⟩, by rw [h.size, hp.length_eq]⟩
theorem ShF.perm {m : Nat} {S S' : List Nat} {len : Nat → Nat} {F : Foot} {w : World} (h : ShF m S len F w) (hp : S.Perm S') : ShF m S' len F w := by
  obtain ⟨D, val, n, h1, h2, h3, h4, h5, h6⟩ := h
  exact ⟨D, val, n, h1, by rw [← hp.length_eq]; exact h2, h3.perm hp, fun i hi => h4 i (hp.mem_iff.2 hi), fun i hi => h5 i (hp.mem_iff.2 hi), h6⟩
/-- A row of cells lies in no block that is a map. -/
theorem row_no_map {w : World} {base n m k N : Nat} {e : TypeId} {size : Nat} {v : Value} {xs : List Value} {D : DataW Value} (h : w.ownsRow base e size v n xs) (hm : w.ownsMap Tryz.prog k hv m N D) : v.ownBlock ≠ some m := fun e => by
  obtain ⟨es, clock, hb, _⟩ := hm
  rcases h.2 with ⟨rfl, _⟩ | ⟨g, cap, cur, rfl, _, hg, _⟩
  · simp [Value.ownBlock] at e
  · have e2 : g = m := by simpa [Value.ownBlock] using e
    subst e2
    rw [hb] at hg
    cases hg
theorem ShF.put {m i k n : Nat} {S : List Nat} {len : Nat → Nat} {F G : Foot} {v : Value} {D : DataW Value} {val : Nat → Value} {w w' : World} (hn : n ≤ S.length) (h3 : MapIs kStr val S D) (h4 : ∀ i ∈ S, i < 8 ∧ ∃ G, RowF (len i) (val i) G w) (h5 : ∀ i ∈ S, ∀ q, (val i).ownBlock = some q → F q) (h6 : F m)
    (hi : i < 8) (hiS : i ∉ S) (hk : k = len i) (hv' : RowF k v G w) (hm : ∀ i ∈ S, (val i).ownBlock ≠ some m) (hvm : v.ownBlock ≠ some m) (ho : w'.ownsMap Tryz.prog 9 hv m (n + 1) (D.put (kStr i) (.held v))) (hg : w.grownBy w' (some m)) :
    ShF m (i :: S) len (fun b => F b ∨ G b) w' := by
  have blk : ∀ (v : Value) (q : Nat), q < w.heap.size → v.ownBlock ≠ some m → v.ownBlock = some q → w'.heap[q]? = w.heap[q]? := fun v q hq h1 h2 => hg.block q hq (fun e => h1 (h2.trans e))
  refine ⟨_, upd val i v, n + 1, ho, by rw [List.length_cons]; omega, h3.put_new (kstr_key i hi) (fun j hj e => hiS (by rw [← kstr_inj (h4 j hj).1 hi e]; exact hj)) v, fun j hj => ?_, fun j hj q hq => ?_, Or.inl h6⟩
  · rcases List.mem_cons.1 hj with rfl | hj
    · obtain ⟨bs, r1, r2, r3, r4⟩ := hv'
      rw [upd_same, ← hk]
      exact ⟨hi, G, bs, r1, r2, own_block r3 (fun q hq => blk v q (r3.lt q hq).2 hvm hq), r4⟩
    · have hne : j ≠ i := fun e => hiS (e ▸ hj)
      rw [upd_other _ _ hne]
      obtain ⟨hj8, G', bs, r1, r2, r3, r4⟩ := h4 j hj
      exact ⟨hj8, G', bs, r1, r2, own_block r3 (fun q hq => blk (val j) q (r3.lt q hq).2 (hm j hj) hq), r4⟩
  · rcases List.mem_cons.1 hj with rfl | hj
    · rw [upd_same] at hq
      obtain ⟨bs, r1, r2, r3, r4⟩ := hv'
      exact Or.inr ((r4 q).2 hq)
    · have hne : j ≠ i := fun e => hiS (e ▸ hj)
      rw [upd_other _ _ hne] at hq
      exact Or.inl (h5 j hj q hq)
end Go.Proofs.YtgggpllmgnpngaaGreatDoor.Tb

namespace Go.Proofs.YtgggpllmgnpngaaGreatDoor.Tb
open Go Go.RowKit

theorem wpOp_of {P : Program} {ops : Array Oper} {Q : Exit → Act → World → Prop} {i : Nat} {o : Oper} {K : Act → World → Prop} {a : Act} {w : World} (ho : ops[i]? = some o) (hg : o.guard = none) (h : o.wp P a w K Q) : wpOp P ops Q i K a w := by
  unfold wpOp
  simp only [ho]
  have hw : Region.wanted o (yielded ops a.tmps) = true := by simp [Region.wanted, hg]
  rw [if_pos hw]
  exact Or.inl h

end Go.Proofs.YtgggpllmgnpngaaGreatDoor.Tb
