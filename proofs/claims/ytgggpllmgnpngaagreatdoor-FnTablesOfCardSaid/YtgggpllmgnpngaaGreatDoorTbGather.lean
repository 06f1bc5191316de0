/- A map of rows: a key written again; a look-up; its state under way. -/
import Derived.Test.YtgggpllmgnpngaaGreatDoorTbLit
import Derived.Test.YtgggpllmgnpngaaGreatDoorTbFits
import Derived.Test.YtgggpllmgnpngaaGreatDoorTbColl
import Derived.Test.YtgggpllmgnpngaaGreatDoorTbBits
import Derived.Test.YtgggpllmgnpngaaGreatDoorTbOs2
import Derived.Test.YtgggpllmgnpngaaGreatDoorTbLaw
import Derived.Laws.IdiomRangeMap
namespace Go.Proofs.YtgggpllmgnpngaaGreatDoor.Tb
open Go Go.RowKit
open Go.Maps (Keyed)

theorem own_tight {w : World} {k : TypeId} {b n : Nat} {D : DataW Value} (h : w.ownsMap Tryz.prog k hv b n D) : w.ownsMap Tryz.prog k hv b (Maps.size D) D := by
  obtain ⟨es, clock, hb, F, hs, rfl⟩ := h
  exact ⟨es, clock, hb, F, by simp [Maps.size, DataW.length_sorted], rfl⟩

theorem ShF.again {m i k n : Nat} {S : List Nat} {len : Nat → Nat} {F G : Foot} {v : Value} {D : DataW Value} {val : Nat → Value} {w w' : World} (h3 : MapIs kStr val S D) (h4 : ∀ i ∈ S, i < 8 ∧ ∃ G, RowF (len i) (val i) G w) (h5 : ∀ i ∈ S, ∀ q, (val i).ownBlock = some q → F q) (h6 : F m)
    (hiS : i ∈ S) (hv' : RowF k v G w) (hm : ∀ i ∈ S, (val i).ownBlock ≠ some m) (hvm : v.ownBlock ≠ some m) (ho : w'.ownsMap Tryz.prog 9 hv m n (D.put (kStr i) (.held v))) (hg : w.grownBy w' (some m)) :
    ShF m S (fun x => if x = i then k else len x) (fun b => F b ∨ G b) w' := by
  have blk : ∀ (v : Value) (q : Nat), q < w.heap.size → v.ownBlock ≠ some m → v.ownBlock = some q → w'.heap[q]? = w.heap[q]? := fun v q hq h1 h2 => hg.block q hq (fun e => h1 (h2.trans e))
  have h7 := h3.put_old (kstr_key i (h4 i hiS).1) hiS (fun j hj hne e => hne (kstr_inj (h4 j hj).1 (h4 i hiS).1 e)) v
  refine ⟨_, upd val i v, _, own_tight ho, by rw [h7.size]; exact Nat.le_refl _, h7, fun j hj => ?_, fun j hj q hq => ?_, Or.inl h6⟩
  · by_cases e : j = i
    · subst e
      obtain ⟨bs, r1, r2, r3, r4⟩ := hv'
      rw [upd_same, show (fun x => if x = j then k else len x) j = k from if_pos rfl]
      exact ⟨(h4 j hj).1, G, bs, r1, r2, own_block r3 (fun q hq => blk v q (r3.lt q hq).2 hvm hq), r4⟩
    · rw [upd_other _ _ e, show (fun x => if x = i then k else len x) j = len j from if_neg e]
      obtain ⟨hj8, G', bs, r1, r2, r3, r4⟩ := h4 j hj
      exact ⟨hj8, G', bs, r1, r2, own_block r3 (fun q hq => blk (val j) q (r3.lt q hq).2 (hm j hj) hq), r4⟩
  · by_cases e : j = i
    · subst e
      rw [upd_same] at hq
      obtain ⟨bs, r1, r2, r3, r4⟩ := hv'
      exact Or.inr ((r4 q).2 hq)
    · rw [upd_other _ _ e] at hq
      exact Or.inl (h5 j hj q hq)

/-- The map under way: its blocks lie above R. -/
structure MapS (R m : Nat) (S : List Nat) (len : Nat → Nat) (W : World) : Prop where
  has : ∃ F, ShF m S len F W ∧ ∀ b, F b → R < b ∧ b < W.heap.size
  lens : ∀ j ∈ S, 0 < len j ∧ len j ≤ 1000
theorem MapS.later {R m : Nat} {S : List Nat} {len : Nat → Nat} {W W' : World} (h : MapS R m S len W) (k : Below W.heap.size W W') : MapS R m S len W' := by
  obtain ⟨F, h1, h2⟩ := h.has
  exact ⟨⟨F, h1.keep (fun b hb => k.block b (h2 b hb).2), fun b hb => ⟨(h2 b hb).1, Nat.lt_of_lt_of_le (h2 b hb).2 k.size⟩⟩, h.lens⟩

/-- A row of bytes just made is laid into the map at a key. -/
theorem MapS.set {R m i n : Nat} {S : List Nat} {len : Nat → Nat} {v : Value} {W0 W : World} (h : MapS R m S len W) (hS7 : S.length ≤ 8) (hi : i < 8) (h0 : 0 < n) (h1 : n ≤ 1000) (hv' : BytesN W0.heap.size n W v) (hR : R < W0.heap.size) :
    ∃ D k, W.ownsMap Tryz.prog 9 hv m k D ∧ k < maxLen ∧ ∀ w', w'.ownsMap Tryz.prog 9 hv m (k + 1) (D.put (kStr i) (.held v)) → W.grownBy w' (some m) →
      (i ∈ S → MapS R m S (fun x => if x = i then n else len x) w') ∧ (i ∉ S → MapS R m (i :: S) (fun x => if x = i then n else len x) w') ∧ Below (R + 1) W w' := by
  obtain ⟨F, ⟨D, val, k, q1, q2, q3, q4, q5, q6⟩, hF⟩ := h.has
  refine ⟨D, k, q1, by unfold maxLen; omega, fun w' ho hg => ?_⟩
  obtain ⟨bs, b1, b2, b3⟩ := hv'
  have hrow : RowF n v (fun b => v.ownBlock = some b) W := ⟨bs, b1, b2, own_mono b3 (Nat.zero_le _), fun b => Iff.rfl⟩
  have hvm : v.ownBlock ≠ some m := row_no_map (k := 9) b3 q1
  have hvals : ∀ i ∈ S, (val i).ownBlock ≠ some m := fun i hi => by
    obtain ⟨_, G, bs, _, _, h3, _⟩ := q4 i hi
    exact row_no_map (k := 9) h3 q1
  have hfoot : ∀ b, (F b ∨ v.ownBlock = some b) → R < b ∧ b < w'.heap.size := fun b hb => by
    have hs := hg.size
    rcases hb with hb | hb
    · have := hF b hb; omega
    · have := b3.lt b hb; omega
  have hlens : ∀ T : List Nat, (∀ j ∈ T, j = i ∨ j ∈ S) → ∀ j ∈ T, 0 < (if j = i then n else len j) ∧ (if j = i then n else len j) ≤ 1000 := fun T hT j hj => by
    by_cases e : j = i
    · rw [if_pos e]; exact ⟨h0, h1⟩
    · rw [if_neg e]; exact h.lens j ((hT j hj).resolve_left e)
  refine ⟨fun hiS => ⟨⟨_, ShF.again q3 q4 q5 q6 hiS hrow hvals hvm ho hg, hfoot⟩, hlens S fun j hj => Or.inr hj⟩, fun hiS => ⟨⟨_, ShF.put (len := fun x => if x = i then n else len x) q2 q3 (fun x hx => ⟨(q4 x hx).1, by rw [if_neg (fun e => hiS (by rw [← e]; exact hx))]; exact (q4 x hx).2⟩) q5 q6 hi hiS (if_pos rfl).symm hrow hvals hvm ho hg, hfoot⟩, hlens _ fun j hj => List.mem_cons.1 hj⟩, ?_⟩
  exact ⟨hg.os, hg.tape, hg.output, hg.size, fun q hq => hg.block q (by have := hF m q6; omega) (fun e => by injection e with e; have := (hF m q6).1; omega)⟩

/-- 'm[k]' where the key is there. -/
theorem wpList_lookup_hv {w : World} {ops : Array Oper} {rest : List Oper} {o : Oper} {a : Act} {Q : Exit → Act → World → Prop} (hg : o.guard = none) (m x : Operand) (t : TypeId) (hop : o.op = Op.lookup t m x false)
    (k e : TypeId) (K : Keyed Tryz.prog k) (ht : Tryz.prog.underlying t = some (.map k e)) (z : Value) (hz : (zeroValue e).run Tryz.prog w = .ok z w) (b n : Nat) (D : DataW Value)
    (hm : a.eval m = .map (some b)) (hown : w.ownsMap Tryz.prog k hv b n D) (key : Value) (kl : Lit) (hx : a.eval x = key) (hkey : keyOf Tryz.prog k key = some kl) (v : Value) (hat : ∀ z, D.atKey kl z = .held v)
    (hK : wpList Tryz.prog ops Q rest (a.put o.dst v) w) : wpList Tryz.prog ops Q (o :: rest) a w := by
  refine wpList_plain hg fun K' hK' => ?_
  have hrun : (Instr.lookup t (.map (some b)) key false).run Tryz.prog w = .ok v w := by
    obtain ⟨es, clock, hb, F, _, rfl⟩ := hown
    rcases Maps.fit_look false K ht hz hb F hkey with ⟨_, _, h3⟩ | ⟨e0, y, _, _, h1, h2, h3, _⟩
    · have := hat (.agg [])
      rw [h3] at this
      cases this
    · have h4 := hat (.agg [])
      rw [h3] at h4
      have h5 : hv e0.val = some (.held v, y.2) := by rw [h2, ← h4]
      have h6 := hv_inj h5
      rw [h6] at h1
      simpa using h1
  unfold Oper.wp
  simp [execOp, hop, hm, hx, hrun, Result.andThen]
  exact hK' _ _ hK
theorem key_is_str {key : Value} {kl : Lit} (h : keyOf Tryz.prog 9 key = some kl) : ∃ s : ByteArray, key = .string s := by
  cases key <;> simp [keyOf, Tryz.underlying9, mapKey] at h
  exact ⟨_, rfl⟩
theorem key_is_tag (i : Nat) (x : ByteArray) (hi : i < 8) (h : keyOf Tryz.prog 9 (.string x) = some (kStr i)) : Value.string x = strV i := (Maps.string_keyed Tryz.underlying9).inj h (kstr_of i hi)
theorem info9 : (Tryz.prog.info? 9).map (fun i => (i.zero, i.size, i.bytes)) = some (some (.string ⟨#[]⟩), 1, 16) := by kernel_rfl
theorem info24 : (Tryz.prog.info? 24).map (fun i => (i.zero, i.size, i.bytes)) = some (some (.slice none 0 0), 1, 24) := by kernel_rfl

/-- The keys gathered so far. -/
structure Gat (m r n : Nat) (D : DataW Value) (P : List Nat) (cnt : Nat) (tv : Value) (w9 X : World) : Prop where
  coll : Coll 9 kStr m r n D P cnt X
  own : X.ownsRow (w9.heap.size + 1) 9 1 tv P.length (P.map strV)
  below : Below w9.heap.size w9 X
  low : r = w9.heap.size ∧ m < w9.heap.size ∧ r < X.heap.size
theorem Gat.next {m r n cnt cnt' i k : Nat} {D : DataW Value} {P : List Nat} {tv tv' : Value} {w9 X X1 X2 : World} {o : Obj} (h : Gat m r n D P cnt tv w9 X) (hc : Coll 9 kStr m r n D (P ++ [i]) cnt' X1) (hg : X.grownBy X1 (some r)) (hs : X1.heap.size = X.heap.size) (hk : k = P.length + 1)
    (ho : X2.ownsRow (w9.heap.size + 1) 9 1 tv' k (P.map strV ++ [strV i])) (hg2 : (X1.alloc o).grownBy X2 tv.ownBlock) : Gat m r n D (P ++ [i]) cnt' tv' w9 X2 := by
  obtain ⟨l1, l2, l3⟩ := h.low
  have hs2 := hg2.size
  rw [World.size_alloc] at hs2
  have hm : some m ≠ tv.ownBlock := fun e => by have := (h.own.lt m e.symm).1; omega
  have hr : some r ≠ tv.ownBlock := fun e => by have := (h.own.lt r e.symm).1; omega
  have ka : Below X1.heap.size X1 (X1.alloc o) := (Below.refl _ _).alloc (Nat.le_refl _) _
  refine ⟨(hc.kept (grown_of_below ka) (by simp) (by simp)).kept hg2 hm hr, by rw [List.length_append, List.length_singleton, ← hk, List.map_append]; exact ho, ?_, l1, l2, by omega⟩
  have b1 : Below w9.heap.size w9 X1 := Kept.below h.below (kept_of_grown hg) h.below.size (fun q hq e => by injection e with e; omega)
  have b2 : Below w9.heap.size w9 (X1.alloc o) := b1.trans (ka.mono b1.size)
  exact Kept.below b2 (kept_of_grown hg2) b2.size (fun q hq e => by have := (h.own.lt q e.symm).1; omega)
end Go.Proofs.YtgggpllmgnpngaaGreatDoor.Tb
