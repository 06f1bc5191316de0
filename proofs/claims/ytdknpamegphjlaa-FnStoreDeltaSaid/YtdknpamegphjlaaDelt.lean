/- The deltas of a list parsed, walked. -/
import Derived.Test.YtdknpamegphjlaaRegs
namespace Go.Proofs.Ytdknpamegphjlaa.Sd
open Go Go.RowKit

theorem chunk {α : Type} (f : α → List Nat) (c : Nat) : ∀ (l : List α), (∀ x ∈ l, (f x).length = c) → ∀ (i : Nat) (x : α), l[i]? = some x → ∃ A B, l.flatMap f = A ++ (f x ++ B) ∧ A.length = i * c
  | [], _, i, x, h => by simp at h
  | y :: l, h, 0, x, hx => by
    simp at hx
    subst hx
    exact ⟨[], l.flatMap f, by simp, by simp⟩
  | y :: l, h, i + 1, x, hx => by
    obtain ⟨A, B, h1, h2⟩ := chunk f c l (fun z hz => h z (by simp [hz])) i x (by simpa using hx)
    refine ⟨f y ++ A, B, by rw [List.flatMap_cons, h1, List.append_assoc], ?_⟩
    rw [List.length_append, h2, h y (by simp), Nat.succ_mul, Nat.add_comm]
theorem rowBytes_len2 (W : Nat) (row : List Int) (h : W ≤ row.length) : (rowBytes W row).length = W + row.length := by
  unfold rowBytes
  rw [List.length_append, shorts_len, List.length_take, List.length_map, List.length_drop]
  omega
theorem rowBytes_lo {W j : Nat} {row : List Int} {x : Int} (hj : j < W) (hW : W ≤ row.length) (hx : row[j]? = some x) : (rowBytes W row)[2 * j]? = some (x / 256 % 256).toNat ∧ (rowBytes W row)[2 * j + 1]? = some (x % 256).toNat := by
  have h1 : (row.take W)[j]? = some x := by rw [List.getElem?_take, if_pos hj]; exact hx
  obtain ⟨a, b⟩ := two_at (row.take W) j x h1
  have hl : (shorts (row.take W)).length = 2 * W := by rw [shorts_len, List.length_take]; omega
  unfold rowBytes
  exact ⟨by rw [List.getElem?_append_left (by omega)]; exact a, by rw [List.getElem?_append_left (by omega)]; exact b⟩
theorem rowBytes_hi {W j : Nat} {row : List Int} {x : Int} (hj : W ≤ j) (hW : W ≤ row.length) (hx : row[j]? = some x) : (rowBytes W row)[W + j]? = some (x % 256).toNat := by
  have hl : (shorts (row.take W)).length = 2 * W := by rw [shorts_len, List.length_take]; omega
  unfold rowBytes
  rw [List.getElem?_append_right (by omega), hl, List.getElem?_map, List.getElem?_drop, show W + (W + j - 2 * W) = j by omega, hx]
  rfl

/-- Numbers of 16 bits as parsed. -/
def I16R (S : Nat → Prop) (w : World) (v : Value) (row : List Int) : Prop := ∃ G, v = .slice (some ⟨G, 0, none⟩) row.length row.length ∧ G < w.heap.size ∧ ¬ S G ∧ ∀ j x, row[j]? = some x → w.cell? ⟨G, j, none⟩ = some (.int .i16 x)
theorem good_i16 : Good I16R where
  kept := fun ⟨G, h1, h2, h3, h4⟩ k hs => ⟨G, h1, Nat.lt_of_lt_of_le h2 k.size, h3, fun j x hx => (World.cell?_of_block (k.block G h2 (fun h => h3 (hs G h2 h)))).trans (h4 j x hx)⟩
  sub := fun ⟨G, h1, h2, h3, h4⟩ hs => ⟨G, h1, h2, fun h => h3 (hs G h2 h), h4⟩

/-- The rows so far: those of the first i are parsed. -/
structure Rws (D m i : Nat) (items : List (List Int)) (W : World) : Prop where
  row : ∃ cur : List Value, W.heap[D]? = some (.cells cur.toArray 25 (0, 0)) ∧ cur.length = m ∧ (∀ u ∈ cur, ∃ A n c, u = .slice A n c) ∧ ∀ (k : Nat) (u : Value) (r : List Int), k < i → cur[k]? = some u → items[k]? = some r → I16R (fun q => q ≤ D) W u r
theorem Rws.kept {S : Nat → Prop} {D m i : Nat} {items : List (List Int)} {W W' : World} (h : Rws D m i items W) (k : Kept S W W') (hS : ¬ S D) (hS2 : ∀ q, q < W.heap.size → S q → q ≤ D) : Rws D m i items W' := by
  obtain ⟨cur, h1, h2, h3, h4⟩ := h.row
  have hD : D < W.heap.size := (Array.getElem?_eq_some_iff.1 h1).1
  exact ⟨cur, (k.block D hD hS).trans h1, h2, h3, fun q u r hq hu hr => good_i16.kept (h4 q u r hq hu hr) k hS2⟩

/-- A block of numbers of 16 bits, of which the first j stand. -/
structure Blk (V n j : Nat) (row : List Int) (W : World) : Prop where
  row : ∃ cur : List Value, W.heap[V]? = some (.cells cur.toArray 51 (0, 0)) ∧ cur.length = n ∧ (∀ u ∈ cur, ∃ x, u = .int .i16 x) ∧ ∀ (k : Nat) (x : Int), k < j → row[k]? = some x → cur[k]? = some (.int .i16 x)
theorem Blk.cell {V n j k : Nat} {row : List Int} {W : World} (h : Blk V n j row W) (hk : k < n) : (∃ x, W.cell? ⟨V, k, none⟩ = some (.int .i16 x)) ∧ W.frozen? ⟨V, k, none⟩ = false := by
  obtain ⟨cur, h1, h2, h3, h4⟩ := h.row
  refine ⟨?_, frozen_in h1⟩
  obtain ⟨x, hx⟩ := h3 (cur[k]'(by omega)) (List.getElem_mem _)
  exact ⟨x, by rw [cell_in h1]; simp only [List.getElem?_toArray]; rw [List.getElem?_eq_getElem (by omega), hx]⟩
theorem Blk.kept {S : Nat → Prop} {V n j : Nat} {row : List Int} {W W' : World} (h : Blk V n j row W) (k : Kept S W W') (hS : ¬ S V) : Blk V n j row W' := by
  obtain ⟨cur, h1, h2, h3, h4⟩ := h.row
  exact ⟨cur, (k.block V (Array.getElem?_eq_some_iff.1 h1).1 hS).trans h1, h2, h3, h4⟩
theorem Blk.set {V n j : Nat} {row : List Int} {W : World} {x : Int} (h : Blk V n j row W) (hx : row[j]? = some x) (hj : j < n) : Blk V n (j + 1) row (W.setCell ⟨V, j, none⟩ (.int .i16 x)) := by
  obtain ⟨cur, h1, h2, h3, h4⟩ := h.row
  refine ⟨cur.set j (.int .i16 x), ?_, by simpa using h2, fun u hu => ?_, fun k y hk hy => ?_⟩
  · rw [set_row h1]; simp
  · rcases List.mem_or_eq_of_mem_set hu with h | h
    · exact h3 u h
    · exact ⟨x, h⟩
  · by_cases e : k = j
    · subst e
      rw [hx] at hy
      rw [List.getElem?_set_self (by omega), Option.some.inj hy]
    · rw [List.getElem?_set_ne (by omega)]
      exact h4 k y (by omega) hy

theorem made_one (z : Value) (n : Nat) : ∀ u ∈ (madeCells #[z] n).toList, u = z := by
  intro u hu
  simp only [madeCells, Array.toList_map, List.mem_map] at hu
  obtain ⟨i, _, rfl⟩ := hu
  show (#[z][i % 1]!) = z
  rw [Nat.mod_one]
  rfl
theorem Rws.cell {D m i k : Nat} {items : List (List Int)} {W : World} (h : Rws D m i items W) (hk : k < m) : (∃ A n c, W.cell? ⟨D, k, none⟩ = some (.slice A n c)) ∧ W.frozen? ⟨D, k, none⟩ = false := by
  obtain ⟨cur, h1, h2, h3, h4⟩ := h.row
  refine ⟨?_, frozen_in h1⟩
  obtain ⟨A, n, c, hx⟩ := h3 (cur[k]'(by omega)) (List.getElem_mem _)
  exact ⟨A, n, c, by rw [cell_in h1]; simp only [List.getElem?_toArray]; rw [List.getElem?_eq_getElem (by omega), hx]⟩
theorem Rws.next {D m i : Nat} {items : List (List Int)} {W : World} {u : Value} {r : List Int} (h : Rws D m i items W) (hr : items[i]? = some r) (hi : i < m) (hs : ∃ A n c, u = .slice A n c) (hu : I16R (fun q => q ≤ D) W u r) : Rws D m (i + 1) items (W.setCell ⟨D, i, none⟩ u) := by
  obtain ⟨cur, h1, h2, h3, h4⟩ := h.row
  refine ⟨cur.set i u, ?_, by simpa using h2, fun v hv => ?_, fun k v r' hk hv hr' => ?_⟩
  · rw [set_row h1]; simp
  · rcases List.mem_or_eq_of_mem_set hv with h | h
    · exact h3 v h
    · rw [h]; exact hs
  · have key : I16R (fun q => q ≤ D) W v r' := by
      by_cases e : k = i
      · subst e
        rw [List.getElem?_set_self (by omega)] at hv
        rw [hr] at hr'
        obtain rfl := Option.some.inj hv
        obtain rfl := Option.some.inj hr'
        exact hu
      · rw [List.getElem?_set_ne (by omega)] at hv
        exact h4 k v r' (by omega) hv hr'
    exact good_i16.kept key (kept_set W D i u) (fun q _ e => by omega)
theorem and_hi (n : Nat) (h : n ≤ 5) : bits .and .u16 (n : Int) 32768 = 0 := by
  rcases (by omega : n = 0 ∨ n = 1 ∨ n = 2 ∨ n = 3 ∨ n = 4 ∨ n = 5) with rfl | rfl | rfl | rfl | rfl | rfl <;> decide
theorem and_lo (n : Nat) (h : n ≤ 5) : bits .and .u16 32767 (n : Int) = n := by
  rcases (by omega : n = 0 ∨ n = 1 ∨ n = 2 ∨ n = 3 ∨ n = 4 ∨ n = 5) with rfl | rfl | rfl | rfl | rfl | rfl <;> decide
theorem i8_back (x : Int) (h : Tiny x) : IntKind.i8.wrap ((x % 256).toNat : Int) = x := by
  unfold Tiny at h
  simp [IntKind.wrap, IntKind.bits, IntKind.signed]
  omega

theorem info25 : (Try.prog.info? 25).map (fun i => (i.zero, i.size, i.bytes)) = some (some (.slice none 0 0), 1, 24) := by kernel_rfl
theorem info51 : (Try.prog.info? 51).map (fun i => (i.zero, i.size, i.bytes)) = some (some (.int .i16 0), 1, 2) := by kernel_rfl

/-- The list's variable. -/
def ivd (m wd rn : Nat) (rg dl : Value) : List Value := [.int .u16 (m : Nat), .int .u16 (wd : Nat), .int .u16 (rn : Nat), rg, dl]

def DeltP (T m wd rn : Nat) (rg : Value) (items : List (List Int)) (w : World) (e : Ending) (w' : World) : Prop :=
  e = .returned .nilIface ∧ ∃ D, w.heap.size ≤ D ∧ w'.heap[T]? = some (.cells (ivd m wd rn rg (.slice (some ⟨D, 0, none⟩) m m)).toArray 85 (0, 0)) ∧ Rws D m m items w' ∧ Kept (fun k => k = T) w w'

set_option maxRecDepth 1000000 in
set_option maxHeartbeats 4000000 in
theorem delt_any (T g off N cap m wd rn : Nat) (rg : Value) (items : List (List Int)) (w : World) (hm : items.length = m) (hm5 : m ≤ 5) (hm0 : 0 < m) (hrn : rn ≤ 5) (hwd : wd ≤ rn) (hrow : ∀ r ∈ items, r.length = rn ∧ ∀ x ∈ r, -32768 ≤ x ∧ x ≤ 32767) (hfit : ∀ r ∈ items, ∀ (k : Nat) (x : Int), wd ≤ k → r[k]? = some x → Tiny x)
    (hN : m * (wd + rn) ≤ N) (hcap : N ≤ cap) (hcm : cap ≤ 9223372036854775807) (hg : g < w.heap.size) (hTg : T ≠ g) (hT : w.heap[T]? = some (.cells (ivd m wd rn rg (.slice none 0 0)).toArray 85 (0, 0))) (hr : Reads w g off (items.flatMap (rowBytes wd))) :
    Calls Try.prog 29 #[.pointer (some ⟨T, 0, none⟩), .slice (some ⟨g, off, none⟩) N cap] w (DeltP T m wd rn rg items w) := by
  have HM := Lib.hid hm
  have HROW := Lib.hid hrow
  have HFIT := Lib.hid hfit
  have HR := Lib.hid hr
  have HT := Lib.hid hT
  have hTs : T < w.heap.size := (Array.getElem?_eq_some_iff.1 hT).1
  have hb1 := and_hi wd (by omega)
  have hb2 := and_lo wd (by omega)
  have wm : IntKind.i64.wrap (m : Int) = m := IntWalk.i64_in _ (by omega)
  have ww : IntKind.i64.wrap (wd : Int) = wd := IntWalk.i64_in _ (by omega)
  have wr : IntKind.i64.wrap (rn : Int) = rn := IntWalk.i64_in _ (by omega)
  obtain ⟨rl, hrl⟩ : ∃ rl, rl = wd + rn := ⟨_, rfl⟩
  have k1 : (wd : Int) + rn = rl := by omega
  have hrl10 : rl ≤ 10 := by omega
  have k1w : IntKind.i64.wrap (rl : Int) = rl := IntWalk.i64_in _ (by omega)
  obtain ⟨q, hq⟩ : ∃ q, q = m * rl := ⟨_, rfl⟩
  have k2 : (m : Int) * rl = q := by rw [hq]; simp
  have hqN : q ≤ N := by rw [hq, hrl]; exact hN
  have k2w : IntKind.i64.wrap (q : Int) = q := IntWalk.i64_in _ (by omega)
  have d1 : decide (N < q) = false := decide_eq_false (by omega)
  have d2 : decide (rn < wd) = false := decide_eq_false (by omega)
  have hmk : ∀ u : World, (Instr.makeSlice 24 (.int .i64 m) (.int .i64 m)).run Try.prog u = .ok (.slice (some ⟨u.heap.size, 0, none⟩) m m) (u.alloc (.cells (madeCells #[.slice none 0 0] m) 25)) := fun u => by
    obtain ⟨i0, hi, hz0, hz1, hz2⟩ := info_parts info25
    have := run_make u (P := Try.prog) 24 25 i0 _ Try.underlying24 hi hz0 .i64 .i64 m m (by omega) (Int.le_refl _) (by rw [hz2]; omega) (by omega)
    simpa [hz1, Value.cells] using this
  have hmk2 : ∀ u : World, (Instr.makeSlice 25 (.int .i64 rn) (.int .i64 rn)).run Try.prog u = .ok (.slice (some ⟨u.heap.size, 0, none⟩) rn rn) (u.alloc (.cells (madeCells #[.int .i16 0] rn) 51)) := fun u => by
    obtain ⟨i0, hi, hz0, hz1, hz2⟩ := info_parts info51
    have := run_make u (P := Try.prog) 25 51 i0 _ Try.underlying25 hi hz0 .i64 .i64 rn rn (by omega) (Int.le_refl _) (by rw [hz2]; omega) (by omega)
    simpa [hz1, Value.cells] using this
  have t0 : w.cell? ⟨T, 0, none⟩ = some (.int .u16 (m : Nat)) := by rw [cell_in hT]; rfl
  have t1 : w.cell? ⟨T, 1, none⟩ = some (.int .u16 (wd : Nat)) := by rw [cell_in hT]; rfl
  have t2 : w.cell? ⟨T, 2, none⟩ = some (.int .u16 (rn : Nat)) := by rw [cell_in hT]; rfl
  have t4 : w.cell? ⟨T, 4, none⟩ = some (.slice none 0 0) := by rw [cell_in hT]; rfl
  have f4 : w.frozen? ⟨T, 4, none⟩ = false := frozen_in hT
  have HRL := Lib.hid hrl
  have HQ := Lib.hid hq
  have HMK2 := Lib.hid hmk2
  clear hm hrow hfit hr hT hN hrl hq hmk2
  go_enter Try.func29, Try.ntmps29
  go_upto_region 13 with fail
  go_cut [61, 60, 59, 58, 57, 56] (fun iv nv _ _ _ _ W => iv = .int .i64 0 ∧ nv = .int .i64 m ∧ ∃ D, w.heap.size ≤ D ∧ W.heap[T]? = some (.cells (ivd m wd rn rg (.slice (some ⟨D, 0, none⟩) m m)).toArray 85 (0, 0)) ∧ Rws D m 0 items W ∧ Kept (fun k => k = T) w W)
  case first =>
    have hw1 : ((w.setCell ⟨T, 4, none⟩ (.slice (some ⟨w.heap.size, 0, none⟩) m m)).alloc (.cells (madeCells #[.slice none 0 0] m) 25)).heap[T]? = some (.cells (ivd m wd rn rg (.slice (some ⟨w.heap.size, 0, none⟩) m m)).toArray 85 (0, 0)) := by
      rw [Below.heap_alloc _ _ _ (by rw [World.size_setCell]; exact hTs), set_row HT.out]
      simp [ivd]
    have hk1 : Kept (fun k => k = T) w ((w.setCell ⟨T, 4, none⟩ (.slice (some ⟨w.heap.size, 0, none⟩) m m)).alloc (.cells (madeCells #[.slice none 0 0] m) 25)) :=
      (kept_set w T 4 _).trans (kept_of_below ((Below.refl _ _).alloc (Nat.le_refl _) _)) (fun _ _ h => h.elim)
    have hr1 : Rws w.heap.size m 0 items ((w.setCell ⟨T, 4, none⟩ (.slice (some ⟨w.heap.size, 0, none⟩) m m)).alloc (.cells (madeCells #[.slice none 0 0] m) 25)) := by
      refine ⟨(madeCells #[.slice none 0 0] m).toList, ?_, by simpa using size_madeCells _ _, fun u hu => ?_, fun k u r hk => absurd hk (by omega)⟩
      · have := heap_alloc_new (w.setCell ⟨T, 4, none⟩ (.slice (some ⟨w.heap.size, 0, none⟩) m m)) (.cells (madeCells #[.slice none 0 0] m) 25)
        rw [World.size_setCell] at this
        simpa using this
      · rw [made_one _ _ u hu]; exact ⟨_, _, _, rfl⟩
    have H1 := Lib.hid (And.intro hw1 (And.intro hr1 hk1))
    clear hw1 hr1 hk1
    go_wp2_with fail
    go_meet
    case rel => exact ⟨rfl, rfl, _, Nat.le_refl _, H1.out.1, H1.out.2.1, H1.out.2.2⟩
  case rest =>
  obtain ⟨rfl, rfl, D, hD, hT1, hr1, hk1⟩ := hcut
  obtain ⟨W1, rfl⟩ : ∃ W : World, W = wc := ⟨_, rfl⟩
  have HS1 := Lib.hid (And.intro hT1 (And.intro hr1 hk1))
  clear hT1 hr1 hk1 hmk t0 t1 t2 t4 f4 d1 d2 hb1 hb2 wm ww wr k1w k2w
  go_wp2_with fail
  go_loopg [61, 1] (m) (fun gk iv sv W => ∃ (i : Nat), gk = m - i ∧ i ≤ m ∧ iv = .int .i64 i ∧ (i < m → sv = .slice (some ⟨g, off + i * rl, none⟩) (N - i * rl) (cap - i * rl)) ∧ W.heap[T]? = some (.cells (ivd m wd rn rg (.slice (some ⟨D, 0, none⟩) m m)).toArray 85 (0, 0)) ∧ Rws D m i items W ∧ Kept (fun k => k = T) w W)
  case atStart => exact ⟨0, rfl, Nat.zero_le _, rfl, fun _ => by simp, HS1.out.1, HS1.out.2.1, HS1.out.2.2⟩
  case round =>
    obtain ⟨i, hgk, him, rfl, hsv, hT1, hrw, hkt⟩ := hrel
    obtain ⟨wo, rfl⟩ : ∃ wo : World, wo = wr := ⟨_, rfl⟩
    have HK := Lib.hid hgk
    have HST := Lib.hid (And.intro hT1 (And.intro hrw hkt))
    by_cases hlt : i < m
    · obtain ⟨r, hri⟩ : ∃ r, items[i]? = some r := ⟨_, List.getElem?_eq_getElem (by have := HM.out; omega)⟩
      obtain ⟨hrl, hrf⟩ := HROW.out r (List.mem_of_getElem? hri)
      obtain ⟨A, B, hAB, hAl⟩ := chunk (rowBytes wd) rl items (fun y hy => by
        have h1 := (HROW.out y hy).1
        rw [rowBytes_len2 wd y (by omega), h1]
        exact HRL.out.symm) i r hri
      obtain ⟨p, hp⟩ : ∃ p, p = i * rl := ⟨_, rfl⟩
      have hpq : p + rl ≤ N := by
        have h1 : (i + 1) * rl ≤ m * rl := Nat.mul_le_mul_right _ (by omega)
        rw [Nat.succ_mul] at h1
        have := HQ.out
        omega
      have hrd : Reads w g (off + p) (rowBytes wd r) := by
        have h1 := HR.out
        rw [hAB] at h1
        have h2 := h1.right.left
        rw [hAl, ← hp] at h2
        exact h2
      obtain ⟨N1, hN1⟩ : ∃ N1, N1 = N - p := ⟨_, rfl⟩
      obtain ⟨c1, hc1⟩ : ∃ c1, c1 = cap - p := ⟨_, rfl⟩
      obtain ⟨o1, ho1⟩ : ∃ o1, o1 = off + p := ⟨_, rfl⟩
      have hsv2 := hsv hlt
      rw [← hp, ← hN1, ← hc1, ← ho1] at hsv2
      subst hsv2
      rw [← ho1] at hrd
      have hN1r : rl ≤ N1 := by omega
      have hc1N : N1 ≤ c1 := by omega
      have hc1b : c1 ≤ 9223372036854775807 := by omega
      have HP := Lib.hid (And.intro hp (And.intro hN1 (And.intro hc1 ho1)))
      have HRD := Lib.hid hrd
      have HRI := Lib.hid (And.intro hri (And.intro hrl hrf))
      have hDs : D < wo.heap.size := by obtain ⟨cur, h1, _⟩ := hrw.row; exact (Array.getElem?_eq_some_iff.1 h1).1
      have hTs2 : T < wo.heap.size := (Array.getElem?_eq_some_iff.1 hT1).1
      have HKT := Lib.hid hkt
      have ki : (i : Int) < m := by omega
      have hblk : Blk wo.heap.size rn 0 r (wo.alloc (.cells (madeCells #[.int .i16 0] rn) 51)) := by
        refine ⟨(madeCells #[.int .i16 0] rn).toList, ?_, by simpa using size_madeCells _ _, fun u hu => ⟨0, made_one _ _ u hu⟩, fun k x hk => absurd hk (by omega)⟩
        simpa using heap_alloc_new wo (.cells (madeCells #[.int .i16 0] rn) 51)
      have HBLK := Lib.hid hblk
      have hmk3 := HMK2.out wo
      have hkg : wo.heap.size ≠ g := by have := hkt.size; omega
      have hrl2 : rl = wd + rn := HRL.out
      have HRL2 := Lib.hid hrl2
      clear hgk hsv hT1 hrw hkt hri hrl hrf hAB hAl hp hN1 hc1 ho1 hrd hblk hrl2
      go_wp2_with fail
      go_loopg [12] (wd) (fun gk jv W => ∃ (j : Nat), gk = wd - j ∧ j ≤ wd ∧ jv = .int .i64 j ∧ Blk wo.heap.size rn j r W ∧ Below wo.heap.size wo W)
      case atStart => exact ⟨0, rfl, Nat.zero_le _, rfl, HBLK.out, (Below.refl _ _).alloc (Nat.le_refl _) _⟩
      case round =>
        obtain ⟨j, hgk, hjw, rfl, hblk, hbel⟩ := hrel
        have HK2 := Lib.hid hgk
        have HB2 := Lib.hid hblk
        have HBE := Lib.hid hbel
        by_cases hlt2 : j < wd
        · obtain ⟨x, hx⟩ : ∃ x, r[j]? = some x := ⟨_, List.getElem?_eq_getElem (by have := HRI.out.2.1; omega)⟩
          obtain ⟨b1, b2⟩ := rowBytes_lo hlt2 (by have := HRI.out.2.1; omega) hx
          have hk2 : Kept (fun k => k = T) w wr := HKT.out.trans (kept_of_below hbel) (fun _ _ h => h.elim)
          have k0 := hk2.cell (HRD.out _ _ b1) (fun e => hTg e.symm)
          have k1 := hk2.cell (HRD.out _ _ b2) (fun e => hTg e.symm)
          rw [← Nat.add_assoc] at k1
          obtain ⟨⟨x0, c0⟩, f0⟩ := hblk.cell (k := j) (by omega)
          have hr2 := HRL2.out
          have hsV : wo.heap.size < wr.heap.size := World.block_lt_of_cell? wr _ c0
          obtain ⟨j2, hj2⟩ : ∃ j2, j2 = 2 * j := ⟨_, rfl⟩
          rw [← hj2] at k0 k1
          have hC := Lib.hid (half_any g (o1 + j2) (N1 - j2) (c1 - j2) _ _ wr.drew (by omega) (by omega) (by omega) k0 k1)
          have hxb := HRI.out.2.2 x (List.mem_of_getElem? hx)
          obtain ⟨pv, hpv⟩ : ∃ pv, pv = (x / 256 % 256).toNat * 256 + (x % 256).toNat := ⟨_, rfl⟩
          have HBK := Lib.hid (i16_back x hxb.1 hxb.2)
          have hbk := HBK.out
          rw [← hpv] at hC hbk
          have kj2 : 2 * (j : Int) = j2 := by omega
          have kj2w : IntKind.i64.wrap (j2 : Int) = j2 := IntWalk.i64_in _ (by omega)
          have kj3 : (j2 : Int) ≤ N1 := by omega
          have kj3' : j2 ≤ N1 := by omega
          have kj4 : ¬ c1 = j2 := by omega
          have kj5 : (j : Int) < rn := by omega
          have HX := Lib.hid hx
          clear hgk hblk hbel hx b1 b2 hk2 k0 k1 hj2 hpv hr2
          go_upto_region 20 with fail
          go_region_with (go_at_call 19; refine hC.out.mono ?_; rintro e w1 ⟨rfl, hb1⟩; have z0 := (hb1.cell (p := ⟨wo.heap.size, j, none⟩) hsV).trans c0; have z1 := (hb1.frozen (p := ⟨wo.heap.size, j, none⟩) hsV).trans f0)
          all_goals
            have hB3 := (HB2.out.kept (kept_of_below ((Below.refl _ wr).drew.trans hb1)) (fun h => h)).set HX.out (by omega)
            have hE3 : Below wo.heap.size wo (w1.setCell ⟨wo.heap.size, j, none⟩ (.int .i16 x)) := (HBE.out.trans (((Below.refl _ wr).drew.trans hb1).mono (by show _ ≤ wr.heap.size; omega))).setCell (Nat.le_refl _) _
            have HN := Lib.hid (And.intro hB3 hE3)
            clear hB3 hE3 z0 z1 hb1
            go_wp2_with fail
            go_roundg (wd - (j + 1))
            case measure => have := HK2.out; omega
            case rel => exact ⟨j + 1, rfl, by omega, by go_num, HN.out.1, HN.out.2⟩
        · have hjw2 : j = wd := by omega
          rw [hjw2] at hblk
          have HB3 := Lib.hid hblk
          obtain ⟨jw, hjj⟩ : ∃ jw, jw = wd := ⟨_, rfl⟩
          have hjw3 : ¬ (j : Int) < wd := by omega
          have HJ := Lib.hid hjw2
          clear hgk hblk hbel hjw2 hjj
          go_wp2_with fail
          go_loopg [12] (rn - wd) (fun gk jv W => ∃ (j : Nat), gk = rn - j ∧ wd ≤ j ∧ j ≤ rn ∧ jv = .int .i64 j ∧ Blk wo.heap.size rn j r W ∧ Below wo.heap.size wo W)
          case atStart => exact ⟨wd, rfl, Nat.le_refl _, hwd, by rw [HJ.out], HB3.out, HBE.out⟩
          case round =>
            obtain ⟨j, hgk, hwj, hjr, rfl, hblk, hbel⟩ := hrel
            have HK3 := Lib.hid hgk
            have HB4 := Lib.hid hblk
            have HBE2 := Lib.hid hbel
            by_cases hlt3 : j < rn
            · obtain ⟨x, hx⟩ : ∃ x, r[j]? = some x := ⟨_, List.getElem?_eq_getElem (by have := HRI.out.2.1; omega)⟩
              have b1 := rowBytes_hi hwj (by have := HRI.out.2.1; omega) hx
              have hk2 : Kept (fun k => k = T) w wr := HKT.out.trans (kept_of_below hbel) (fun _ _ h => h.elim)
              have k0 := hk2.cell (HRD.out _ _ b1) (fun e => hTg e.symm)
              obtain ⟨⟨x0, c0⟩, f0⟩ := hblk.cell (k := j) (by omega)
              have hr2 := HRL2.out
              obtain ⟨j2, hj2⟩ : ∃ j2, j2 = wd + j := ⟨_, rfl⟩
              rw [← hj2] at k0
              have htiny := HFIT.out r (List.mem_of_getElem? HRI.out.1) j x hwj hx
              have HBK := Lib.hid (i8_back x htiny)
              have hbk := HBK.out
              obtain ⟨pv, hpv⟩ : ∃ pv, pv = (x % 256).toNat := ⟨_, rfl⟩
              rw [← hpv] at k0 hbk
              have hxb := HRI.out.2.2 x (List.mem_of_getElem? hx)
              have hbk2 : IntKind.i16.wrap x = x := by
                simp [IntKind.wrap, IntKind.bits, IntKind.signed]
                omega
              have kj2 : (wd : Int) + (j : Int) = j2 := by omega
              have kj2w : IntKind.i64.wrap (j2 : Int) = j2 := IntWalk.i64_in _ (by omega)
              have kj3 : (j2 : Int) < N1 := by omega
              have kj5 : (j : Int) < rn := by omega
              have hB3 := hblk.set hx (by omega)
              have hE3 : Below wo.heap.size wo (wr.setCell ⟨wo.heap.size, j, none⟩ (.int .i16 x)) := hbel.setCell (Nat.le_refl _) _
              have HN := Lib.hid (And.intro hB3 hE3)
              clear hgk hblk hbel hx b1 hk2 hj2 hpv hr2 hB3 hE3 htiny hxb
              go_wp2_with fail
              go_roundg (rn - (j + 1))
              case measure => have := HK3.out; omega
              case rel => exact ⟨j + 1, rfl, by omega, by omega, by go_num, HN.out.1, HN.out.2⟩
            · have hjr2 : j = rn := by omega
              have kj : ¬ (j : Int) < rn := by omega
              obtain ⟨hT1, hrw, hkt⟩ := HST.out
              have hT2 := (hbel.block _ (by omega)).trans hT1
              have hrw2 := hrw.kept (kept_of_below hbel) (fun h => h) (fun _ _ h => h.elim)
              have hkt2 : Kept (fun k => k = T) w wr := hkt.trans (kept_of_below hbel) (fun _ _ h => h.elim)
              have t4 : wr.cell? ⟨T, 4, none⟩ = some (.slice (some ⟨D, 0, none⟩) m m) := by rw [cell_in hT2]; rfl
              obtain ⟨⟨xa, xn, xc, c0⟩, f0⟩ := hrw2.cell (k := i) (by omega)
              have hi16 : I16R (fun q => q ≤ D) wr (.slice (some ⟨wo.heap.size, 0, none⟩) rn rn) r := by
                obtain ⟨cur, h1, h2, h3, h4⟩ := hblk.row
                refine ⟨wo.heap.size, by rw [HRI.out.2.1], (Array.getElem?_eq_some_iff.1 h1).1, by omega, fun k y hy => ?_⟩
                rw [cell_in h1]
                have hk := (List.getElem?_eq_some_iff.1 hy).1
                simpa using h4 k y (by have := HRI.out.2.1; omega) hy
              have hnx := hrw2.next HRI.out.1 (by omega) ⟨_, _, _, rfl⟩ hi16
              have hTD : T ≠ D := by have := hTs; omega
              have hT3 : (wr.setCell ⟨D, i, none⟩ (.slice (some ⟨wo.heap.size, 0, none⟩) rn rn)).heap[T]? = some (.cells (ivd m wd rn rg (.slice (some ⟨D, 0, none⟩) m m)).toArray 85 (0, 0)) := by
                rw [Below.heap_setCell _ _ _ _ hTD]; exact hT2
              have hkt3 : Kept (fun k => k = T) w (wr.setCell ⟨D, i, none⟩ (.slice (some ⟨wo.heap.size, 0, none⟩) rn rn)) := hkt2.trans (kept_set wr D i _) (fun q hq e => by omega)
              have HN := Lib.hid (And.intro hT3 (And.intro hnx hkt3))
              have krl : (rl : Int) ≤ N1 := by omega
              have HPP := HP
              by_cases hce : c1 = rl
              · clear hgk hblk hbel hT1 hrw hkt hT2 hrw2 hkt2 hi16 hnx hT3 hkt3 hjr2
                subst hce
                go_wp2_with fail
                go_roundg (m - (i + 1))
                case measure => have := HK.out; omega
                case rel => exact ⟨i + 1, rfl, by omega, by go_num, fun hi1 => by
                  obtain ⟨h1, h2, h3, h4⟩ := HP.out
                  have h6 := HQ.out
                  have h5 : (i + 2) * c1 ≤ m * c1 := Nat.mul_le_mul_right _ (by omega)
                  rw [Nat.add_mul] at h5
                  have h7 : c1 = 0 := by omega
                  have h8 : (i + 1) * c1 = 0 := by rw [h7, Nat.mul_zero]
                  have h9 : p = 0 := by rw [h1, h7, Nat.mul_zero]
                  have hN : N = 0 := by omega
                  have hc : cap = 0 := by omega
                  rw [h8, h4, h9, hN, hc], HN.out.1, HN.out.2.1, HN.out.2.2⟩
              · clear hgk hblk hbel hT1 hrw hkt hT2 hrw2 hkt2 hi16 hnx hT3 hkt3 hjr2
                go_wp2_with fail
                go_roundg (m - (i + 1))
                case measure => have := HK.out; omega
                case rel => exact ⟨i + 1, rfl, by omega, by go_num, fun _ => by
                  obtain ⟨h1, h2, h3, h4⟩ := HP.out
                  have h5 : (i + 1) * rl = i * rl + rl := Nat.succ_mul _ _
                  rw [h5, ← h1, h2, h3, h4, Nat.sub_sub, Nat.sub_sub, Nat.add_assoc], HN.out.1, HN.out.2.1, HN.out.2.2⟩
    · have hi : i = m := by omega
      rw [hi] at hrw
      have hres : DeltP T m wd rn rg items w (.returned .nilIface) wo := ⟨rfl, D, hD, hT1, hrw, hkt⟩
      have HRES := Lib.hid hres
      clear hgk hsv hT1 hrw hkt hi hres
      go_wp2_with fail
      go_ret
      exact HRES.out
end Go.Proofs.Ytdknpamegphjlaa.Sd
