/- Numbers of 16 and of 32 bits written behind a table's bytes, walked. -/
import Derived.Test.YtdknpamegphjlaaAxis
namespace Go.Proofs.Ytdknpamegphjlaa.Sd
open Go Go.RowKit

theorem cells_new (w : World) (l : List Value) (t : TypeId) : ∀ j u, l[j]? = some u → (w.alloc (.cells l.toArray t)).cell? ((⟨w.heap.size, 0, none⟩ : Addr).add j) = some u := by
  intro j u hj
  rw [Addr.add_lit, Nat.zero_add, World.cell?_alloc_at _ _ _ _ rfl]
  simpa using hj
theorem cell_in {w : World} {g j : Nat} {cur : Array Value} {t : TypeId} (h : w.heap[g]? = some (.cells cur t (0, 0))) : w.cell? ⟨g, j, none⟩ = cur[j]? := by
  simp [World.cell?, h]
theorem frozen_in {w : World} {g j : Nat} {cur : Array Value} {t : TypeId} (h : w.heap[g]? = some (.cells cur t (0, 0))) : w.frozen? ⟨g, j, none⟩ = false := by
  unfold World.frozen?
  dsimp only
  rw [h]
  simp
theorem own_form {w : World} {base n : Nat} {e : TypeId} {size : Nat} {v : Value} {xs : List Value} (h : w.ownsRow base e size v n xs) (hn : 0 < n) :
    ∃ g cap cur, v = .slice (some ⟨g, 0, none⟩) n cap ∧ base ≤ g ∧ w.heap[g]? = some (.cells (List.toArray cur) e (0, 0)) ∧ n ≤ cap ∧ cap ≤ maxLen ∧ cur.length = cap * size ∧ cur.take (n * size) = xs := by
  rcases h.2 with ⟨_, h0⟩ | ⟨g, cap, cur, hv, hg, hh, h1, h2, h3, h4⟩
  · omega
  · exact ⟨g, cap, cur.toList, hv, hg, by simpa using hh, h1, h2, by simpa using h3, h4⟩
def byteCells (bs : List Nat) : List Value := bs.map fun b => Value.int .u8 (b : Nat)
theorem byteCells_append (a b : List Nat) : byteCells (a ++ b) = byteCells a ++ byteCells b := by simp [byteCells]

/-- A table's bytes. -/
structure Tab (T base : Nat) (bs : List Nat) (W : World) (v : Value) : Prop where
  cell : W.cell? ⟨T, 0, none⟩ = some v
  free : W.frozen? ⟨T, 0, none⟩ = false
  own : W.ownsRow base 5 1 v bs.length (byteCells bs)
  low : T < base
  size : base ≤ W.heap.size

def two (x : Int) : List Nat := [(x / 256 % 256).toNat, (x % 256).toNat]
def Ints (w : World) (X : Nat) (vals : List Int) : Prop := ∀ j x, vals[j]? = some x → w.cell? ⟨X, j, none⟩ = some (.int .i64 x)
def shorts (vals : List Int) : List Nat := vals.flatMap two

structure Wrote (T base : Nat) (bs : List Nat) (v : Value) (w : World) (v' : Value) (w' : World) : Prop where
  tab : Tab T base bs w' v'
  born : v'.ownBlock = v.ownBlock ∨ ∃ q, v'.ownBlock = some q ∧ w.heap.size ≤ q
  kept : Kept (fun k => k = T ∨ some k = v.ownBlock) w w'

theorem info5 : (Try.prog.info? 5).map (fun i => (i.zero, i.size, i.bytes)) = some (some (.int .u8 0), 1, 1) := by kernel_rfl
theorem shorts_succ {vals : List Int} {j : Nat} {x : Int} (h : vals[j]? = some x) : shorts (vals.take (j + 1)) = shorts (vals.take j) ++ two x := by
  obtain ⟨hj, hx⟩ := List.getElem?_eq_some_iff.1 h
  unfold shorts
  rw [List.take_succ_eq_append_getElem hj, List.flatMap_append, hx]
  simp
theorem shorts_len (vals : List Int) : (shorts vals).length = 2 * vals.length := by
  induction vals with
  | nil => rfl
  | cons x vals ih =>
    have : shorts (x :: vals) = two x ++ shorts vals := by simp [shorts]
    rw [this, List.length_append, ih, List.length_cons]
    simp [two]
    omega
theorem two_new (w : World) (a b : Int) : ∀ (j : Nat) (u : Value), [Value.int .u8 a, .int .u8 b][j]? = some u → (w.alloc (.cells #[.int .u8 a, .int .u8 b] 5)).cell? ((⟨w.heap.size, 0, none⟩ : Addr).add j) = some u :=
  fun j u hj => cells_new w [.int .u8 a, .int .u8 b] 5 j u hj

theorem two_cells (x : Int) : byteCells (two x) = [.int .u8 (x / 256 % 256), .int .u8 (x % 256)] := by
  have h1 : ((x / 256 % 256).toNat : Int) = x / 256 % 256 := Int.toNat_of_nonneg (by omega)
  have h2 : ((x % 256).toNat : Int) = x % 256 := Int.toNat_of_nonneg (by omega)
  simp [byteCells, two, h1, h2]
theorem wrote_next {T base k : Nat} {x : Int} {bs : List Nat} {vals : List Int} {v v1 v2 : Value} {w wr w4 : World} (h : Wrote T base (bs ++ shorts (vals.take k)) v w v1 wr) (hx : vals[k]? = some x)
    (ho : w4.ownsRow base 5 1 v2 ((bs ++ shorts (vals.take k)).length + 2) (byteCells (bs ++ shorts (vals.take k)) ++ [.int .u8 (x / 256 % 256), .int .u8 (x % 256)]))
    (hg : (wr.alloc (.cells #[.int .u8 (x / 256 % 256), .int .u8 (x % 256)] 5)).grownBy w4 v1.ownBlock) (hat : v2.ownBlock = v1.ownBlock ∨ v2.ownBlock = some (wr.heap.size + 1)) :
    (w4.cell? ⟨T, 0, none⟩ = some v1 ∧ w4.frozen? ⟨T, 0, none⟩ = false) ∧ Wrote T base (bs ++ shorts (vals.take (k + 1))) v w v2 (w4.setCell ⟨T, 0, none⟩ v2) := by
  have ht := h.tab
  have hlow := ht.low
  have hsz := ht.size
  have hkz := h.kept.size
  have hne : some T ≠ v1.ownBlock := fun e => by have := (ht.own.lt T e.symm).1; omega
  have hb : w4.heap[T]? = wr.heap[T]? := by
    rw [hg.block T (by rw [World.size_alloc]; omega) hne, Below.heap_alloc _ _ _ (by omega)]
  have hc : w4.cell? ⟨T, 0, none⟩ = some v1 := (World.cell?_of_block hb).trans ht.cell
  have hf : w4.frozen? ⟨T, 0, none⟩ = false := (World.frozen?_of_block hb).trans ht.free
  have hs4 := hg.size
  rw [World.size_alloc] at hs4
  have hne2 : ∀ q, v2.ownBlock = some q → q ≠ T := by
    intro q hq e
    subst e
    have := (ho.lt q hq).1
    omega
  refine ⟨⟨hc, hf⟩, ⟨World.cell?_setCell_same _ _ _ hc, by rw [World.frozen?_setCell]; exact hf, ?_, hlow, by rw [World.size_setCell]; omega⟩, ?_, ?_⟩
  · rw [shorts_succ hx, ← List.append_assoc]
    have e : (bs ++ shorts (vals.take k) ++ two x).length = (bs ++ shorts (vals.take k)).length + 2 := by rw [List.length_append]; rfl
    have e2 : byteCells (bs ++ shorts (vals.take k) ++ two x) = byteCells (bs ++ shorts (vals.take k)) ++ [.int .u8 (x / 256 % 256), .int .u8 (x % 256)] := by
      rw [byteCells_append, two_cells]
    rw [e, e2]
    exact own_block ho (fun q hq => Below.heap_setCell _ _ _ _ (hne2 q hq))
  · rcases hat with h1 | h1
    · rw [h1]; exact h.born
    · rw [h1]; exact Or.inr ⟨_, rfl, by omega⟩
  · refine ⟨?_, ?_, ?_, ?_, ?_⟩
    · show w4.os = w.os
      rw [hg.os]; exact h.kept.os
    · show w4.tape = w.tape
      rw [hg.tape]; exact h.kept.tape
    · show w4.output = w.output
      rw [hg.output]; exact h.kept.output
    · rw [World.size_setCell]; omega
    · intro q hq hn
      have h1 : q ≠ T := fun e => hn (Or.inl e)
      rw [Below.heap_setCell _ _ _ _ h1]
      have h2 : some q ≠ v1.ownBlock := by
        intro e
        rcases h.born with h3 | ⟨p, h3, h4⟩
        · exact hn (Or.inr (e.trans h3))
        · rw [h3] at e; have := Option.some.inj e; omega
      rw [hg.block q (by rw [World.size_alloc]; omega) h2, Below.heap_alloc _ _ _ (by omega)]
      exact h.kept.block q hq hn

set_option maxHeartbeats 2000000 in
theorem short_any (T base m : Nat) (bs : List Nat) (vals : List Int) (v xv : Value) (w : World) (hm : vals.length = m) (hm3 : m ≤ 9) (hvals : ∀ x ∈ vals, -100000000 < x ∧ x < 100000000) (hbs : bs.length ≤ 100000) (ht : Tab T base bs w v) (hx : Row (fun q => q = T ∨ some q = v.ownBlock) w xv m (vals.map fun x => .int .i64 x)) :
    Calls Try.prog 24 #[.pointer (some ⟨T, 0, none⟩), xv] w fun e w' => e = .returned (.pointer (some ⟨T, 0, none⟩)) ∧ ∃ v', Wrote T base (bs ++ shorts vals) v w v' w' := by
  obtain ⟨i0, hi, hz0, hz1, hz2⟩ := info_parts info5
  obtain ⟨A, xcap, rfl, hxc, hxc2, _, hx3⟩ := hx
  have HM := Lib.hid hm
  have HV := Lib.hid hvals
  have HT := Lib.hid ht
  have HX := Lib.hid hx3
  clear hm hvals ht hx3
  go_enter Try.func24, Try.ntmps24
  go_wp2
  go_loopg [9] (m) (fun gk iv W => ∃ (k : Nat) (v' : Value), k ≤ m ∧ gk = m - k ∧ iv = .int .i64 k ∧ Wrote T base (bs ++ shorts (vals.take k)) v w v' W)
  case atStart => exact ⟨0, v, Nat.zero_le _, rfl, rfl, ⟨by simpa [shorts] using HT.out, Or.inl rfl, Kept.refl _ _⟩⟩
  case round =>
    obtain ⟨k, v1, hk, hgk, rfl, hw⟩ := hrel
    have HK := Lib.hid hgk
    have HW := Lib.hid hw
    clear hgk
    by_cases hlt : k < m
    · obtain ⟨x, hx⟩ : ∃ x, vals[k]? = some x := ⟨_, List.getElem?_eq_getElem (by have := HM.out; omega)⟩
      obtain ⟨X, rfl, hX, hXS, hXc⟩ := HX.out (by omega)
      have c0 : wr.cell? ⟨X, k, none⟩ = some (.int .i64 x) := by
        rw [← hXc k (.int .i64 x) (by simp [hx])]
        exact World.cell?_of_block (w := w) (hw.kept.block X hX hXS)
      have hxl := HV.out x (List.mem_of_getElem? hx)
      have hc := hw.tab.cell
      have hf := hw.tab.free
      have hlow := hw.tab.low
      have hsz := hw.tab.size
      have hown := hw.tab.own
      have hl1 : (bs ++ shorts (vals.take k)).length = bs.length + 2 * k := by rw [List.length_append, shorts_len, List.length_take, Nat.min_eq_left (by have := HM.out; omega)]
      have HXX := Lib.hid hx
      clear hw hx hX hXS hXc
      go_wp2_with (at_builtin; go_must (refine wpList_append_own_at _ rfl (.tmp 17) (.tmp 23) 26 rfl base 5 i0 (.int .u8 0) 1 1 Try.underlying26 hi hz0 hz1 hz2 rfl (by decide) _ _ _ rfl (hown.alloc _) ⟨wr.heap.size, 0, none⟩ 2 2 [.int .u8 (x / 256 % 256), .int .u8 (x % 256)] rfl rfl (two_new _ _ _) (ints_oneCell .u8 [_, _]) ?_ ?_ ?_ ?_))
      · unfold maxLen; omega
      · omega
      · rw [World.size_alloc]; omega
      intro v2 w4 hown2 hg2 _ hat2
      obtain ⟨g2, cap2, cur2, rfl, _⟩ := own_form hown2 (by omega)
      have R := wrote_next (x := x) HW.out HXX.out (by rw [hl1]; exact hown2) hg2 hat2
      have HR := Lib.hid R.2
      obtain ⟨d0, d1⟩ := R.1
      clear R hown2 hg2 hat2 hown c0 hc hf
      go_wp2
      go_roundg (m - (k + 1))
      case measure => have := HK.out; omega
      case rel => exact ⟨k + 1, _, by omega, rfl, by go_num, HR.out⟩
    · have hkm : vals.take k = vals := List.take_of_length_le (by have := HM.out; omega)
      rw [hkm] at hw
      have HWW := Lib.hid hw
      clear hw HW hkm
      go_wp2
      go_ret
      exact ⟨rfl, v1, HWW.out⟩

theorem shorts_append (a b : List Int) : shorts (a ++ b) = shorts a ++ shorts b := by simp [shorts]
theorem row_new (S : Nat → Prop) (w : World) (l : List Value) (t : TypeId) (n : Nat) (hS : ¬ S w.heap.size) (hn : l.length = n) (h63 : n ≤ 9223372036854775807) : Row S (w.alloc (.cells l.toArray t)) (.slice (some ⟨w.heap.size, 0, none⟩) n n) n l := by
  refine ⟨_, n, rfl, Nat.le_refl _, h63, fun h0 => List.eq_nil_of_length_eq_zero (by omega), fun _ => ⟨_, rfl, by rw [World.size_alloc]; omega, hS, fun j x hx => ?_⟩⟩
  rw [World.cell?_alloc_at _ _ _ _ rfl]
  simpa using hx
theorem Tab.later {T base : Nat} {bs : List Nat} {w w' : World} {v : Value} (h : Tab T base bs w v) (k : Below w.heap.size w w') : Tab T base bs w' v := by
  have hs := h.size
  have hl := h.low
  refine ⟨below_cell k h.cell, ?_, own_block h.own (fun q hq => k.block q (h.own.lt q hq).2), h.low, Nat.le_trans h.size k.size⟩
  rw [← h.free]
  exact k.frozen (by show T < _; omega)
theorem Tab.mine {T base : Nat} {bs : List Nat} {w : World} {v : Value} (h : Tab T base bs w v) : ∀ q, (q = T ∨ some q = v.ownBlock) → q < w.heap.size := fun q hq => by
  rcases hq with rfl | hq
  · have := h.low; have := h.size; omega
  · exact (h.own.lt q hq.symm).2
theorem shr16 (x : Int) (h : 0 ≤ x) (h2 : x < 100000000) : x / 65536 < 100000000 := by omega

set_option maxHeartbeats 2000000 in
theorem long_any (T base : Nat) (bs : List Nat) (x : Int) (v : Value) (w : World) (hx0 : 0 ≤ x) (hx1 : x < 100000000) (hbs : bs.length ≤ 100000) (ht : Tab T base bs w v) :
    Calls Try.prog 25 #[.pointer (some ⟨T, 0, none⟩), .int .i64 x] w fun e w' => e = .returned (.pointer (some ⟨T, 0, none⟩)) ∧ ∃ v', Wrote T base (bs ++ shorts [x / 65536, x]) v w v' w' := by
  have hb : Below w.heap.size w (w.alloc (.cells #[.int .i64 (x / 65536), .int .i64 x] 3)) := (Below.refl _ _).alloc (Nat.le_refl _) _
  have hS := Lib.hid (short_any T base 2 bs [x / 65536, x] v (.slice (some ⟨w.heap.size, 0, none⟩) 2 2) (w.alloc (.cells #[.int .i64 (x / 65536), .int .i64 x] 3)) rfl (by omega) (by intro y hy; simp at hy; omega) hbs (ht.later hb)
    (row_new _ w [.int .i64 (x / 65536), .int .i64 x] 3 2 (fun h => by have := ht.mine _ h; omega) rfl (by omega)))
  have HB := Lib.hid hb
  have HM := Lib.hid ht.mine
  clear hb ht
  go_enter Try.func25, Try.ntmps25
  go_wp2_with fail
  refine hS.out.mono ?_
  rintro e w2 ⟨rfl, v', hw⟩
  have HW := Lib.hid (show Wrote T base (bs ++ shorts [x / 65536, x]) v w v' w2 from ⟨hw.tab, hw.born.imp id (fun ⟨q, h1, h2⟩ => ⟨q, h1, by rw [World.size_alloc] at h2; omega⟩), (kept_of_below HB.out).sub (fun _ _ h => h.elim) |>.trans hw.kept (fun _ _ h => h)⟩)
  clear hw
  go_wp2
  go_ret
  exact ⟨rfl, v', HW.out⟩
end Go.Proofs.Ytdknpamegphjlaa.Sd
