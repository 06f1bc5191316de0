/- Numbers of 16 and of 32 bits, and tags, written behind a table's bytes, walked. -/
import Derived.Test.YtgggpllmgnpngaaGreatDoorTbMem
namespace Go.Proofs.YtgggpllmgnpngaaGreatDoor.Tb
open Go Go.RowKit

theorem cells_new (w : World) (l : List Value) (t : TypeId) : ∀ j u, l[j]? = some u → (w.alloc (.cells l.toArray t)).cell? ((⟨w.heap.size, 0, none⟩ : Addr).add j) = some u := by
  intro j u hj
  rw [Addr.add_lit, Nat.zero_add, World.cell?_alloc_at _ _ _ _ rfl]
  simpa using hj
theorem cell_in {w : World} {g j : Nat} {cur : Array Value} {t : TypeId} (h : w.heap[g]? = some (.cells cur t (0, 0))) : w.cell? ⟨g, j, none⟩ = cur[j]? := by
  simp [World.cell?, h]
theorem frozen_in {w : World} {g j : Nat} {cur : Array Value} {t : TypeId} (h : w.heap[g]? = some (.cells cur t (0, 0))) : w.frozen? ⟨g, j, none⟩ = false := by
  unfold World.frozen?
  dsimp only
  rw [h]
  simp
theorem own_form {w : World} {base n : Nat} {e : TypeId} {size : Nat} {v : Value} {xs : List Value} (h : w.ownsRow base e size v n xs) (hn : 0 < n) :
    ∃ g cap cur, v = .slice (some ⟨g, 0, none⟩) n cap ∧ base ≤ g ∧ w.heap[g]? = some (.cells (List.toArray cur) e (0, 0)) ∧ n ≤ cap ∧ cap ≤ maxLen ∧ cur.length = cap * size ∧ cur.take (n * size) = xs := by
  rcases h.2 with ⟨_, h0⟩ | ⟨g, cap, cur, hv, hg, hh, h1, h2, h3, h4⟩
  · omega
  · exact ⟨g, cap, cur.toList, hv, hg, by simpa using hh, h1, h2, by simpa using h3, h4⟩
def byteCells (bs : List Nat) : List Value := bs.map fun b => Value.int .u8 (b : Nat)
theorem byteCells_append (a b : List Nat) : byteCells (a ++ b) = byteCells a ++ byteCells b := by simp [byteCells]

/-- A table: its bytes, its links. -/
structure Tab (T base : Nat) (bs : List Nat) (lv : Value) (W : World) (v : Value) : Prop where
  cell : W.cell? ⟨T, 0, none⟩ = some v
  link : W.cell? ⟨T, 1, none⟩ = some lv
  free : W.frozen? ⟨T, 0, none⟩ = false
  free1 : W.frozen? ⟨T, 1, none⟩ = false
  own : W.ownsRow base 5 1 v bs.length (byteCells bs)
  low : T < base
  size : base ≤ W.heap.size

def two (x : Int) : List Nat := [(x / 256 % 256).toNat, (x % 256).toNat]
def Ints (w : World) (X : Nat) (vals : List Int) : Prop := ∀ j x, vals[j]? = some x → w.cell? ⟨X, j, none⟩ = some (.int .i64 x)
def shorts (vals : List Int) : List Nat := vals.flatMap two

structure Wrote (T base : Nat) (bs : List Nat) (lv : Value) (v : Value) (w : World) (v' : Value) (w' : World) : Prop where
  tab : Tab T base bs lv w' v'
  born : v'.ownBlock = v.ownBlock ∨ ∃ q, v'.ownBlock = some q ∧ w.heap.size ≤ q
  kept : Kept (fun k => k = T ∨ some k = v.ownBlock) w w'
theorem info5 : (Tryz.prog.info? 5).map (fun i => (i.zero, i.size, i.bytes)) = some (some (.int .u8 0), 1, 1) := by kernel_rfl
theorem shorts_succ {vals : List Int} {j : Nat} {x : Int} (h : vals[j]? = some x) : shorts (vals.take (j + 1)) = shorts (vals.take j) ++ two x := by
  obtain ⟨hj, hx⟩ := List.getElem?_eq_some_iff.1 h
  unfold shorts
  rw [List.take_succ_eq_append_getElem hj, List.flatMap_append, hx]
  simp
theorem shorts_len (vals : List Int) : (shorts vals).length = 2 * vals.length := by
  induction vals with
  | nil => rfl
  | cons x vals ih =>
    have : shorts (x :: vals) = two x ++ shorts vals := by simp [shorts]
    rw [this, List.length_append, ih, List.length_cons]
    simp [two]
    omega
theorem two_new (w : World) (a b : Int) : ∀ (j : Nat) (u : Value), [Value.int .u8 a, .int .u8 b][j]? = some u → (w.alloc (.cells #[.int .u8 a, .int .u8 b] 5)).cell? ((⟨w.heap.size, 0, none⟩ : Addr).add j) = some u :=
  fun j u hj => cells_new w [.int .u8 a, .int .u8 b] 5 j u hj

theorem two_cells (x : Int) : byteCells (two x) = [.int .u8 (x / 256 % 256), .int .u8 (x % 256)] := by
  have h1 : ((x / 256 % 256).toNat : Int) = x / 256 % 256 := Int.toNat_of_nonneg (by omega)
  have h2 : ((x % 256).toNat : Int) = x % 256 := Int.toNat_of_nonneg (by omega)
  simp [byteCells, two, h1, h2]
theorem wrote_more {T base k n : Nat} {new : List Nat} {bs : List Nat} {lv v v1 v2 : Value} {w wr w4 : World} (h : Wrote T base bs lv v w v1 wr) (hn : k = bs.length) (hn2 : n = k + new.length)
    (ho : w4.ownsRow base 5 1 v2 n (byteCells bs ++ byteCells new)) {o : Option Obj}
    (hg : (match o with | some o => wr.alloc o | none => wr).grownBy w4 v1.ownBlock) (hat : v2.ownBlock = v1.ownBlock ∨ ∃ q, v2.ownBlock = some q ∧ wr.heap.size ≤ q) :
    (w4.cell? ⟨T, 0, none⟩ = some v1 ∧ w4.frozen? ⟨T, 0, none⟩ = false) ∧ Wrote T base (bs ++ new) lv v w v2 (w4.setCell ⟨T, 0, none⟩ v2) := by
  have ht := h.tab
  have hlow := ht.low
  have hsz := ht.size
  have hkz := h.kept.size
  have hne : some T ≠ v1.ownBlock := fun e => by have := (ht.own.lt T e.symm).1; omega
  have hsz2 : wr.heap.size ≤ w4.heap.size := by
    have := hg.size
    cases o with
    | none => exact this
    | some o => dsimp only at this; rw [World.size_alloc] at this; omega
  have hblk : ∀ q, q < wr.heap.size → some q ≠ v1.ownBlock → w4.heap[q]? = wr.heap[q]? := fun q hq hq2 => by
    cases o with
    | none => exact hg.block q hq hq2
    | some o => rw [hg.block q (by dsimp only; rw [World.size_alloc]; omega) hq2]; exact Below.heap_alloc _ _ _ (by omega)
  have hb : w4.heap[T]? = wr.heap[T]? := hblk T (by omega) hne
  have hc : w4.cell? ⟨T, 0, none⟩ = some v1 := (World.cell?_of_block hb).trans ht.cell
  have hl : w4.cell? ⟨T, 1, none⟩ = some lv := (World.cell?_of_block hb).trans ht.link
  have hf : w4.frozen? ⟨T, 0, none⟩ = false := (World.frozen?_of_block hb).trans ht.free
  have hf1 : w4.frozen? ⟨T, 1, none⟩ = false := (World.frozen?_of_block hb).trans ht.free1
  have hne2 : ∀ q, v2.ownBlock = some q → q ≠ T := by
    intro q hq e
    subst e
    have := (ho.lt q hq).1
    omega
  have hos : w4.os = wr.os ∧ w4.tape = wr.tape ∧ w4.output = wr.output := by
    cases o with
    | none => exact ⟨hg.os, hg.tape, hg.output⟩
    | some o => exact ⟨hg.os, hg.tape, hg.output⟩
  refine ⟨⟨hc, hf⟩, ⟨World.cell?_setCell_same _ _ _ hc, ?_, by rw [World.frozen?_setCell]; exact hf, by rw [World.frozen?_setCell]; exact hf1, ?_, hlow, by rw [World.size_setCell]; omega⟩, ?_, ?_⟩
  · rw [World.cell?_setCell_other _ _ _ _ (by simp)]; exact hl
  · rw [byteCells_append, List.length_append, ← hn, ← hn2]
    exact own_block ho (fun q hq => Below.heap_setCell _ _ _ _ (hne2 q hq))
  · rcases hat with h1 | ⟨q, h1, h2⟩
    · rw [h1]; exact h.born
    · exact Or.inr ⟨q, h1, by omega⟩
  · refine ⟨hos.1.trans h.kept.os, hos.2.1.trans h.kept.tape, hos.2.2.trans h.kept.output, ?_, ?_⟩
    · rw [World.size_setCell]; omega
    · intro q hq hn
      have h1 : q ≠ T := fun e => hn (Or.inl e)
      rw [Below.heap_setCell _ _ _ _ h1]
      have h2 : some q ≠ v1.ownBlock := by
        intro e
        rcases h.born with h3 | ⟨p, h3, h4⟩
        · exact hn (Or.inr (e.trans h3))
        · rw [h3] at e; have := Option.some.inj e; omega
      rw [hblk q (by omega) h2]
      exact h.kept.block q hq hn

set_option maxRecDepth 100000 in
set_option maxHeartbeats 2000000 in
theorem short_any (T base m : Nat) (bs : List Nat) (vals : List Int) (lv v xv : Value) (w : World) (hm : vals.length = m) (hm3 : m ≤ 20) (hvals : ∀ x ∈ vals, -1000000000000 < x ∧ x < 1000000000000) (hbs : bs.length ≤ 100000) (ht : Tab T base bs lv w v) (hx : Row (fun q => q = T ∨ some q = v.ownBlock) w xv m (vals.map fun x => .int .i64 x)) :
    Calls Tryz.prog 16 #[.pointer (some ⟨T, 0, none⟩), xv] w fun e w' => e = .returned (.pointer (some ⟨T, 0, none⟩)) ∧ ∃ v', Wrote T base (bs ++ shorts vals) lv v w v' w' := by
  obtain ⟨i0, hi, hz0, hz1, hz2⟩ := info_parts info5
  obtain ⟨A, xcap, rfl, hxc, hxc2, _, hx3⟩ := hx
  have HM := Lib.hid hm
  have HV := Lib.hid hvals
  have HT := Lib.hid ht
  have HX := Lib.hid hx3
  clear hm hvals ht hx3
  go_enter Tryz.func16, Tryz.ntmps16
  go_wp2
  go_loopg [9] (m) (fun gk iv W => ∃ (k : Nat) (v' : Value), k ≤ m ∧ gk = m - k ∧ iv = .int .i64 k ∧ Wrote T base (bs ++ shorts (vals.take k)) lv v w v' W)
  case atStart => exact ⟨0, v, Nat.zero_le _, rfl, rfl, ⟨by simpa [shorts] using HT.out, Or.inl rfl, Kept.refl _ _⟩⟩
  case round =>
    obtain ⟨k, v1, hk, hgk, rfl, hw⟩ := hrel
    have HK := Lib.hid hgk
    have HW := Lib.hid hw
    clear hgk
    by_cases hlt : k < m
    · obtain ⟨x, hx⟩ : ∃ x, vals[k]? = some x := ⟨_, List.getElem?_eq_getElem (by have := HM.out; omega)⟩
      obtain ⟨X, rfl, hX, hXS, hXc⟩ := HX.out (by omega)
      have c0 : wr.cell? ⟨X, k, none⟩ = some (.int .i64 x) := by
        rw [← hXc k (.int .i64 x) (by simp [hx])]
        exact World.cell?_of_block (w := w) (hw.kept.block X hX hXS)
      have hxl := HV.out x (List.mem_of_getElem? hx)
      have hc := hw.tab.cell
      have hf := hw.tab.free
      have hlow := hw.tab.low
      have hsz := hw.tab.size
      have hown := hw.tab.own
      have hl1 : (bs ++ shorts (vals.take k)).length = bs.length + 2 * k := by rw [List.length_append, shorts_len, List.length_take, Nat.min_eq_left (by have := HM.out; omega)]
      have HXX := Lib.hid hx
      clear hw hx hX hXS hXc
      go_wp2_with (at_builtin; go_must (refine wpList_append_own_at _ rfl (.tmp 17) (.tmp 23) 24 rfl base 5 i0 (.int .u8 0) 1 1 Tryz.underlying24 hi hz0 hz1 hz2 rfl (by decide) _ _ _ rfl (hown.alloc _) ⟨wr.heap.size, 0, none⟩ 2 2 [.int .u8 (x / 256 % 256), .int .u8 (x % 256)] rfl rfl (two_new _ _ _) (ints_oneCell .u8 [_, _]) ?_ ?_ ?_ ?_))
      · unfold maxLen; omega
      · omega
      · rw [World.size_alloc]; omega
      intro v2 w4 hown2 hg2 _ hat2
      obtain ⟨g2, cap2, cur2, rfl, _⟩ := own_form hown2 (by omega)
      have hown3 : w4.ownsRow base 5 1 (.slice (some ⟨g2, 0, none⟩) (bs.length + 2 * k + 2) cap2) (bs.length + 2 * k + 2) (byteCells (bs ++ shorts (vals.take k)) ++ byteCells (two x)) := by
        rw [two_cells]; exact hown2
      have R := wrote_more (new := two x) (o := some (.cells #[.int .u8 (x / 256 % 256), .int .u8 (x % 256)] 5)) HW.out hl1.symm rfl hown3 hg2 (hat2.imp id (fun h => ⟨_, h, by simp⟩))
      rw [List.append_assoc, ← shorts_succ HXX.out] at R
      have HR := Lib.hid R.2
      obtain ⟨d0, d1⟩ := R.1
      clear R hown2 hown3 hg2 hat2 hown c0 hc hf
      go_wp2
      go_roundg (m - (k + 1))
      case measure => have := HK.out; omega
      case rel => exact ⟨k + 1, _, by omega, rfl, by go_num, HR.out⟩
    · have hkm : vals.take k = vals := List.take_of_length_le (by have := HM.out; omega)
      rw [hkm] at hw
      have HWW := Lib.hid hw
      clear hw HW hkm
      go_wp2
      go_ret
      exact ⟨rfl, v1, HWW.out⟩

theorem shorts_append (a b : List Int) : shorts (a ++ b) = shorts a ++ shorts b := by simp [shorts]
theorem row_new (S : Nat → Prop) (w : World) (l : List Value) (t : TypeId) (n : Nat) (hS : ¬ S w.heap.size) (hn : l.length = n) (h63 : n ≤ 9223372036854775807) : Row S (w.alloc (.cells l.toArray t)) (.slice (some ⟨w.heap.size, 0, none⟩) n n) n l := by
  refine ⟨_, n, rfl, Nat.le_refl _, h63, fun h0 => List.eq_nil_of_length_eq_zero (by omega), fun _ => ⟨_, rfl, by rw [World.size_alloc]; omega, hS, fun j x hx => ?_⟩⟩
  rw [World.cell?_alloc_at _ _ _ _ rfl]
  simpa using hx
theorem Tab.later {T base : Nat} {bs : List Nat} {w w' : World} {lv v : Value} (h : Tab T base bs lv w v) (k : Below w.heap.size w w') : Tab T base bs lv w' v := by
  have hs := h.size
  have hl := h.low
  refine ⟨below_cell k h.cell, below_cell k h.link, ?_, ?_, own_block h.own (fun q hq => k.block q (h.own.lt q hq).2), h.low, Nat.le_trans h.size k.size⟩
  · rw [← h.free]
    exact k.frozen (by show T < _; omega)
  · rw [← h.free1]
    exact k.frozen (by show T < _; omega)
theorem Tab.mine {T base : Nat} {bs : List Nat} {w : World} {lv v : Value} (h : Tab T base bs lv w v) : ∀ q, (q = T ∨ some q = v.ownBlock) → q < w.heap.size := fun q hq => by
  rcases hq with rfl | hq
  · have := h.low; have := h.size; omega
  · exact (h.own.lt q hq.symm).2

set_option maxRecDepth 100000 in
set_option maxHeartbeats 2000000 in
theorem long_any (T base : Nat) (bs : List Nat) (x : Int) (lv v : Value) (w : World) (hx0 : 0 ≤ x) (hx1 : x < 1000000000000) (hbs : bs.length ≤ 100000) (ht : Tab T base bs lv w v) :
    Calls Tryz.prog 17 #[.pointer (some ⟨T, 0, none⟩), .int .i64 x] w fun e w' => e = .returned (.pointer (some ⟨T, 0, none⟩)) ∧ ∃ v', Wrote T base (bs ++ shorts [x / 65536, x]) lv v w v' w' := by
  have hb : Below w.heap.size w (w.alloc (.cells #[.int .i64 (x / 65536), .int .i64 x] 3)) := (Below.refl _ _).alloc (Nat.le_refl _) _
  have hS := Lib.hid (short_any T base 2 bs [x / 65536, x] lv v (.slice (some ⟨w.heap.size, 0, none⟩) 2 2) (w.alloc (.cells #[.int .i64 (x / 65536), .int .i64 x] 3)) rfl (by omega) (by intro y hy; simp at hy; omega) hbs (ht.later hb)
    (row_new _ w [.int .i64 (x / 65536), .int .i64 x] 3 2 (fun h => by have := ht.mine _ h; omega) rfl (by omega)))
  have HB := Lib.hid hb
  have HM := Lib.hid ht.mine
  clear hb ht
  go_enter Tryz.func17, Tryz.ntmps17
  go_wp2_with fail
  refine hS.out.mono ?_
  rintro e w2 ⟨rfl, v', hw⟩
  have HW := Lib.hid (show Wrote T base (bs ++ shorts [x / 65536, x]) lv v w v' w2 from ⟨hw.tab, hw.born.imp id (fun ⟨q, h1, h2⟩ => ⟨q, h1, by rw [World.size_alloc] at h2; omega⟩), (kept_of_below HB.out).sub (fun _ _ h => h.elim) |>.trans hw.kept (fun _ _ h => h)⟩)
  clear hw
  go_wp2
  go_ret
  exact ⟨rfl, v', HW.out⟩

/-- A new table. -/
theorem tab_start (w : World) : Tab w.heap.size (w.heap.size + 1) [] (.slice none 0 0) (w.alloc (.cells #[.slice none 0 0, .slice none 0 0] 67)) (.slice none 0 0) := by
  have h := heap_alloc_new w (.cells #[.slice none 0 0, .slice none 0 0] 67)
  exact ⟨by rw [cell_in h]; rfl, by rw [cell_in h]; rfl, frozen_in h, frozen_in h, World.ownsRow_nil _ _ _ _, by omega, by simp⟩

theorem shorts_byte (vals : List Int) : ∀ b ∈ shorts vals, b < 256 := by
  intro b hb
  unfold shorts at hb
  obtain ⟨x, _, hx⟩ := List.mem_flatMap.1 hb
  simp [two] at hx
  omega
theorem byte_append {a b : List Nat} (ha : ∀ x ∈ a, x < 256) (hb : ∀ x ∈ b, x < 256) : ∀ x ∈ a ++ b, x < 256 := fun x hx => by
  rcases List.mem_append.1 hx with h | h
  · exact ha x h
  · exact hb x h

/-- A table made here: so many bytes, no links; all else as it was. -/
def TabN (T n : Nat) (w0 W : World) : Prop := w0.heap.size ≤ T ∧ ∃ v bs, bs.length = n ∧ (∀ b ∈ bs, b < 256) ∧ Tab T (T + 1) bs (.slice none 0 0) W v ∧ Below w0.heap.size w0 W
/-- .. and beside it a row of numbers. -/
def TabX (T n X m : Nat) (cs : List Value) (w0 W : World) : Prop := w0.heap.size ≤ T ∧ ∃ v bs, bs.length = n ∧ (∀ b ∈ bs, b < 256) ∧ Tab T (T + 1) bs (.slice none 0 0) W v ∧ Below w0.heap.size w0 W ∧ Row (fun q => q = T ∨ some q = v.ownBlock) W (.slice (some ⟨X, 0, none⟩) m m) m cs
theorem tabn_start {w0 : World} (w : World) (h : Below w0.heap.size w0 w) : TabN w.heap.size 0 w0 (w.alloc (.cells #[.slice none 0 0, .slice none 0 0] 67)) := ⟨h.size, _, [], rfl, by simp, tab_start w, h.alloc h.size _⟩
theorem TabN.below {T n : Nat} {w0 W : World} (h : TabN T n w0 W) : Below w0.heap.size w0 W := by
  obtain ⟨_, v, bs, _, _, _, h⟩ := h; exact h
theorem TabN.later {T n : Nat} {w0 W W' : World} (h : TabN T n w0 W) (k : Below W.heap.size W W') : TabN T n w0 W' := by
  obtain ⟨h0, v, bs, h1, h2, h3, h4⟩ := h
  exact ⟨h0, v, bs, h1, h2, h3.later k, h4.trans (k.mono h4.size)⟩
theorem TabN.size {T n : Nat} {w0 W : World} (h : TabN T n w0 W) : T < W.heap.size := by
  obtain ⟨_, v, bs, h1, h2, h3, h4⟩ := h
  exact h3.size
theorem TabN.row {T n m : Nat} {w0 W : World} {cs : List Value} {t : TypeId} (h : TabN T n w0 W) (hm : cs.length = m) (h63 : m ≤ 100) : TabX T n W.heap.size m cs w0 (W.alloc (.cells cs.toArray t)) := by
  obtain ⟨h0, v, bs, h1, h2, h3, h4⟩ := h
  have hk : Below W.heap.size W (W.alloc (.cells cs.toArray t)) := (Below.refl _ _).alloc (Nat.le_refl _) _
  exact ⟨h0, v, bs, h1, h2, h3.later hk, h4.trans (hk.mono h4.size), row_new _ W _ t m (fun h => by have := h3.mine _ h; omega) hm (by omega)⟩
theorem tabx_start {w0 : World} (w : World) {X m : Nat} {cs : List Value} (h : Below w0.heap.size w0 w) (hr : Row (fun _ => False) w (.slice (some ⟨X, 0, none⟩) m m) m cs) : TabX w.heap.size 0 X m cs w0 (w.alloc (.cells #[.slice none 0 0, .slice none 0 0] 67)) := by
  refine ⟨h.size, _, [], rfl, by simp, tab_start w, h.alloc h.size _, ?_⟩
  have h2 : Row (fun q => q = w.heap.size ∨ some q = (Value.slice none 0 0).ownBlock) w (.slice (some ⟨X, 0, none⟩) m m) m cs := hr.sub (fun q hq h => by
    rcases h with h | h
    · omega
    · simp [Value.ownBlock] at h)
  exact h2.below ((Below.refl _ _).alloc (Nat.le_refl _) _)
theorem TabX.plain {T n X m : Nat} {cs : List Value} {w0 W : World} (h : TabX T n X m cs w0 W) : TabN T n w0 W := by
  obtain ⟨h0, v, bs, h1, h2, h3, h4, _⟩ := h
  exact ⟨h0, v, bs, h1, h2, h3, h4⟩

theorem tab_wrote {T n : Nat} {w0 W W2 : World} {v v2 : Value} {bs new : List Nat} (hT : w0.heap.size ≤ T) (ht : Tab T (T + 1) bs (.slice none 0 0) W v) (hb : Below w0.heap.size w0 W)
    (hw : Wrote T (T + 1) (bs ++ new) (.slice none 0 0) v W v2 W2) (hn : bs.length + new.length = n) (h1 : ∀ x ∈ bs, x < 256) (h2 : ∀ x ∈ new, x < 256) : TabN T n w0 W2 := by
  refine ⟨hT, v2, bs ++ new, by rw [List.length_append]; exact hn, byte_append h1 h2, hw.tab, ?_⟩
  exact hw.kept.below hb hb.size (fun q hq h => by
    rcases h with h | h
    · omega
    · have := (ht.own.lt q h.symm).1; omega)
theorem tabx_wrote {T n X m : Nat} {cs : List Value} {w0 W W2 : World} {v v2 : Value} {bs new : List Nat} (hT : w0.heap.size ≤ T) (ht : Tab T (T + 1) bs (.slice none 0 0) W v) (hb : Below w0.heap.size w0 W)
    (hr : Row (fun q => q = T ∨ some q = v.ownBlock) W (.slice (some ⟨X, 0, none⟩) m m) m cs)
    (hw : Wrote T (T + 1) (bs ++ new) (.slice none 0 0) v W v2 W2) (hn : bs.length + new.length = n) (h1 : ∀ x ∈ bs, x < 256) (h2 : ∀ x ∈ new, x < 256) : TabX T n X m cs w0 W2 := by
  obtain ⟨h0, v', bs', e1, e2, e3, e4⟩ := tab_wrote hT ht hb hw hn h1 h2
  refine ⟨hT, v2, bs ++ new, by rw [List.length_append]; exact hn, byte_append h1 h2, hw.tab, e4, ?_⟩
  have hr2 : Row (fun q => (q = T ∨ some q = v.ownBlock) ∨ some q = v2.ownBlock) W (.slice (some ⟨X, 0, none⟩) m m) m cs := hr.sub (fun q hq h => by
    rcases h with h | h
    · exact h
    · rcases hw.born with h3 | ⟨p, h3, h4⟩
      · exact Or.inr (h.trans h3)
      · rw [h3] at h; have := Option.some.inj h; omega)
  exact (hr2.kept hw.kept (fun q _ h => Or.inl h)).sub (fun q _ h => by
    rcases h with h | h
    · exact Or.inl (Or.inl h)
    · exact Or.inr h)

theorem short_x (T n X m : Nat) (w0 w : World) (cs : List Value) (vals : List Int) (hcs : cs = vals.map fun x => .int .i64 x) (hm : vals.length = m) (hm3 : m ≤ 20) (hvals : ∀ x ∈ vals, -1000000000000 < x ∧ x < 1000000000000) (hn : n ≤ 90000) (ht : TabX T n X m cs w0 w) :
    Calls Tryz.prog 16 #[.pointer (some ⟨T, 0, none⟩), .slice (some ⟨X, 0, none⟩) m m] w fun e w' => e = .returned (.pointer (some ⟨T, 0, none⟩)) ∧ TabN T (n + 2 * m) w0 w' := by
  subst hcs
  obtain ⟨hT, v, bs, h1, h2, h3, h4, h5⟩ := ht
  refine (short_any T (T + 1) m bs vals (.slice none 0 0) v _ _ hm hm3 hvals (by omega) h3 h5).mono ?_
  rintro e w' ⟨rfl, v', hw⟩
  exact ⟨rfl, tab_wrote hT h3 h4 hw (by rw [shorts_len]; omega) h2 (shorts_byte _)⟩
theorem short_n (T n m : Nat) (w0 w : World) (cs : List Value) (vals : List Int) (hcs : cs = vals.map fun x => .int .i64 x) (hm : vals.length = m) (hm3 : m ≤ 20) (hvals : ∀ x ∈ vals, -1000000000000 < x ∧ x < 1000000000000) (hn : n ≤ 90000) (ht : TabN T n w0 w) :
    Calls Tryz.prog 16 #[.pointer (some ⟨T, 0, none⟩), .slice (some ⟨w.heap.size, 0, none⟩) m m] (w.alloc (.cells cs.toArray 3)) fun e w' => e = .returned (.pointer (some ⟨T, 0, none⟩)) ∧ TabN T (n + 2 * m) w0 w' :=
  short_x T n w.heap.size m w0 _ cs vals hcs hm hm3 hvals hn (ht.row (by rw [hcs]; simpa using hm) (by omega))
theorem long_n (T n : Nat) (w0 w : World) (x : Int) (hx0 : 0 ≤ x) (hx1 : x < 1000000000000) (hn : n ≤ 90000) (ht : TabN T n w0 w) :
    Calls Tryz.prog 17 #[.pointer (some ⟨T, 0, none⟩), .int .i64 x] w fun e w' => e = .returned (.pointer (some ⟨T, 0, none⟩)) ∧ TabN T (n + 4) w0 w' := by
  obtain ⟨hT, v, bs, h1, h2, h3, h4⟩ := ht
  refine (long_any T (T + 1) bs x (.slice none 0 0) v w hx0 hx1 (by omega) h3).mono ?_
  rintro e w' ⟨rfl, v', hw⟩
  exact ⟨rfl, tab_wrote hT h3 h4 hw (by rw [shorts_len]; simp; omega) h2 (shorts_byte _)⟩
theorem long_x (T n X m : Nat) (cs : List Value) (w0 w : World) (x : Int) (hx0 : 0 ≤ x) (hx1 : x < 1000000000000) (hn : n ≤ 90000) (ht : TabX T n X m cs w0 w) :
    Calls Tryz.prog 17 #[.pointer (some ⟨T, 0, none⟩), .int .i64 x] w fun e w' => e = .returned (.pointer (some ⟨T, 0, none⟩)) ∧ TabX T (n + 4) X m cs w0 w' := by
  obtain ⟨hT, v, bs, h1, h2, h3, h4, h5⟩ := ht
  refine (long_any T (T + 1) bs x (.slice none 0 0) v w hx0 hx1 (by omega) h3).mono ?_
  rintro e w' ⟨rfl, v', hw⟩
  exact ⟨rfl, tabx_wrote hT h3 h4 h5 hw (by rw [shorts_len]; simp; omega) h2 (shorts_byte _)⟩
theorem TabX.later {T n X m : Nat} {cs : List Value} {w0 W W' : World} (h : TabX T n X m cs w0 W) (k : Below W.heap.size W W') : TabX T n X m cs w0 W' := by
  obtain ⟨h0, v, bs, h1, h2, h3, h4, h5⟩ := h
  exact ⟨h0, v, bs, h1, h2, h3.later k, h4.trans (k.mono h4.size), h5.below k⟩
theorem TabX.drew {T n X m : Nat} {cs : List Value} {w0 W : World} (h : TabX T n X m cs w0 W) : TabX T n X m cs w0 W.drew := h.later (Below.refl _ W).drew
theorem TabN.drew {T n : Nat} {w0 W : World} (h : TabN T n w0 W) : TabN T n w0 W.drew := h.later (Below.refl _ W).drew
end Go.Proofs.YtgggpllmgnpngaaGreatDoor.Tb
