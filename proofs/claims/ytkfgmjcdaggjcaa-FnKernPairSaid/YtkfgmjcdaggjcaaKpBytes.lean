/- A table of kerning written, walked. -/
import Derived.Test.YtkfgmjcdaggjcaaKpShort
namespace Go.Proofs.Ytkfgmjcdaggjcaa.Kp
open Go Go.RowKit

/-- The numbers of the pairs, one behind the other. -/
def nums (l : List Tri) : List Int := l.flatMap fun t => [(t.a : Int), (t.b : Int), t.v]
theorem nums_len (l : List Tri) : (nums l).length = l.length * 3 := by
  induction l with
  | nil => rfl
  | cons x l ih =>
    have e : nums (x :: l) = (x.a : Int) :: (x.b : Int) :: x.v :: nums l := by simp [nums]
    rw [e]
    simp [ih]
    omega
theorem nums_succ {l : List Tri} {k : Nat} {t : Tri} (h : l[k]? = some t) : nums (l.take (k + 1)) = nums (l.take k) ++ [(t.a : Int), (t.b : Int), t.v] := by
  obtain ⟨hl, ht⟩ := List.getElem?_eq_some_iff.1 h
  rw [List.take_succ_eq_append_getElem hl, ht]
  simp [nums]
theorem shorts_append (a b : List Int) : shorts (a ++ b) = shorts a ++ shorts b := by simp [shorts]
theorem ints_three (w : World) (t : TypeId) (x y z : Int) : Ints (w.alloc (.cells #[.int .i64 x, .int .i64 y, .int .i64 z] t)) w.heap.size [x, y, z] := by
  intro j v hj
  rw [cell_in (heap_alloc_new w _)]
  match j, hj with
  | 0, hj | 1, hj | 2, hj => simp at hj; subst hj; rfl
theorem own_slice {w : World} {base : Nat} {v : Value} {b : List Nat} (h : w.ownsRow base 5 1 v b.length (byteCells b)) : ∃ A cap, v = .slice A b.length cap := by
  rcases h.2 with ⟨rfl, h0⟩ | ⟨g, cap, cur, rfl, _⟩
  · exact ⟨none, 0, by rw [h0]⟩
  · exact ⟨_, _, rfl⟩
theorem own_mono {w : World} {base base' n : Nat} {e : TypeId} {size : Nat} {v : Value} {xs : List Value} (h : w.ownsRow base e size v n xs) (hb : base' ≤ base) : w.ownsRow base' e size v n xs := by
  obtain ⟨hl, h | ⟨g, cap, cur, hv, hg, hrest⟩⟩ := h
  · exact ⟨hl, .inl h⟩
  · exact ⟨hl, .inr ⟨g, cap, cur, hv, Nat.le_trans hb hg, hrest⟩⟩

/-- The bytes written: a header with some search numbers, then the pairs. -/
def Written (l : List Tri) (w : World) (e : Ending) (w' : World) : Prop :=
  ∃ (s1 s2 s3 : Int) (q cp : Nat) (bs : List Nat), bs = shorts ([0, 1, 0, 14 + 6 * (l.length : Int), 1, (l.length : Int), s1, s2, s3] ++ nums l) ∧ e = .returned (.slice (some ⟨q, 0, none⟩) bs.length cp) ∧
    w'.ownsRow w.heap.size 5 1 (.slice (some ⟨q, 0, none⟩) bs.length cp) bs.length (byteCells bs) ∧ Below w.heap.size w w'

theorem ints_nine (w : World) (t : TypeId) (x1 x2 x3 x4 x5 x6 x7 x8 x9 : Int) : Ints (w.alloc (.cells #[.int .i64 x1, .int .i64 x2, .int .i64 x3, .int .i64 x4, .int .i64 x5, .int .i64 x6, .int .i64 x7, .int .i64 x8, .int .i64 x9] t)) w.heap.size [x1, x2, x3, x4, x5, x6, x7, x8, x9] := by
  intro j v hj
  rw [cell_in (heap_alloc_new w _)]
  match j, hj with
  | 0, hj | 1, hj | 2, hj | 3, hj | 4, hj | 5, hj | 6, hj | 7, hj | 8, hj => simp at hj; subst hj; rfl
theorem tab_start (W : World) (z : Value) : Tab W.heap.size (W.heap.size + 1) [] (W.alloc (.cells #[.slice none 0 0, z] 56)) (.slice none 0 0) := by
  have h := heap_alloc_new W (.cells #[.slice none 0 0, z] 56)
  exact ⟨by rw [cell_in h]; rfl, frozen_in h, World.ownsRow_nil _ _ _ _, Nat.lt_succ_self _, by simp⟩

structure KB (base g n cap T : Nat) (l : List Tri) (ts : List Nat) (tv : Value) (w0 w W : World) : Prop where
  tab : Tab T (T + 1) ts W tv
  now : Now base g n cap l w0 W
  below : Below w.heap.size w W
  hg : g < T
  hb : base ≤ T
  hw : w.heap.size ≤ T

theorem KB.later {base g n cap T : Nat} {l : List Tri} {ts : List Nat} {tv : Value} {w0 w W W' : World} (h : KB base g n cap T l ts tv w0 w W) (hb : Below W.heap.size W W') : KB base g n cap T l ts tv w0 w W' := by
  have hs := h.tab.size
  have hs2 := hb.size
  exact ⟨⟨by rw [← h.tab.cell]; exact hb.cell (by show T < _; omega), by rw [← h.tab.free]; exact hb.frozen (by show T < _; omega), own_block h.tab.own (fun q hq => hb.block q (h.tab.own.lt q hq).2), h.tab.low, by omega⟩, h.now.later hb, h.below.trans (hb.mono h.below.size), h.hg, h.hb, h.hw⟩
theorem KB.wrote {base g n cap T : Nat} {l : List Tri} {ts ts' : List Nat} {tv tv' : Value} {w0 w W W' : World} (h : KB base g n cap T l ts tv w0 w W) (hw : Wrote T (T + 1) ts' tv W tv' W') : KB base g n cap T l ts' tv' w0 w W' := by
  have hg := h.hg
  have hb := h.hb
  have hww := h.hw
  have hs := h.tab.size
  have hlow : ∀ q, q < T → W'.heap[q]? = W.heap[q]? := fun q hq => hw.kept.block q (by omega) (by
    rintro (e | e)
    · omega
    · have := (h.tab.own.lt q e.symm).1; omega)
  refine ⟨hw.tab, ⟨own_block h.now.own (fun q hq => hlow q (by have : q = g := (Option.some.inj hq).symm; omega)), ?_, Nat.le_trans h.now.low hw.kept.size⟩, ?_, hg, hb, hww⟩
  · exact Kept.below h.now.below hw.kept h.now.low (fun q hq e => by
      rcases e with e | e
      · omega
      · have := (h.tab.own.lt q e.symm).1; omega)
  · exact Kept.below h.below hw.kept h.below.size (fun q hq e => by
      rcases e with e | e
      · omega
      · have := (h.tab.own.lt q e.symm).1; omega)

set_option maxRecDepth 1000000 in
set_option maxHeartbeats 4000000 in
theorem kbytes_any (base g n cap : Nat) (l : List Tri) (w0 w : World) (hn60 : n ≤ 60) (hn1 : 0 < n) (hok : ∀ x ∈ l, Tri.Ok x) (h : Now base g n cap l w0 w) :
    Calls Try.prog 9 #[.slice (some ⟨g, 0, none⟩) n cap] w (Written l w) := by
  have HL := Lib.hid h.len
  have HOK := Lib.hid hok
  have HN0 := Lib.hid h
  clear hok h
  go_enter Try.func9, Try.ntmps9
  go_wp2_with fail
  go_loopg [4, 5] (99) (fun gk sv hv W => ∃ (s k : Nat), gk = 100 - s ∧ sv = .int .i64 s ∧ hv = .int .i64 k ∧ 1 ≤ s ∧ s ≤ 60 ∧ k ≤ s ∧ W = w)
  case atStart => exact ⟨1, 0, rfl, rfl, rfl, by omega, by omega, by omega, rfl⟩
  case round =>
    obtain ⟨s, k, hgk, rfl, rfl, hs1, hs60, hks, hW⟩ := hrel
    obtain ⟨wo, rfl⟩ : ∃ wo : World, wo = wr := ⟨_, rfl⟩
    have HK := Lib.hid hgk
    have HWW := Lib.hid hW
    clear hgk hW
    obtain ⟨s2, hs2⟩ : ∃ s2, s2 = 2 * s := ⟨_, rfl⟩
    have k0 : (s : Int) * 2 = (s2 : Int) := by omega
    have k1 : IntKind.i64.wrap (s2 : Int) = s2 := IntWalk.i64_in _ (by omega)
    have k2 : (if (1 : Int) < (n : Int) then (n : Int) else 1) = (n : Int) := by split <;> omega
    have HS2 := Lib.hid hs2
    by_cases hlt : s2 ≤ n
    · clear hs2
      go_wp2_with fail
      go_roundg (100 - s2)
      case measure => have := HK.out; have := HS2.out; omega
      case rel => exact ⟨s2, k + 1, rfl, rfl, by go_num, by have := HS2.out; omega, by omega, by have := HS2.out; omega, HWW.out⟩
    · clear hs2
      obtain ⟨T, hT⟩ : ∃ T, T = wo.heap.size := ⟨_, rfl⟩
      obtain ⟨q1, hq1⟩ : ∃ q1 : Nat, q1 = 6 * n := ⟨_, rfl⟩
      obtain ⟨q2, hq2⟩ : ∃ q2 : Nat, q2 = 6 * s := ⟨_, rfl⟩
      have k3 : 6 * (n : Int) = (q1 : Int) := by omega
      have k4 : IntKind.i64.wrap (q1 : Int) = q1 := IntWalk.i64_in _ (by omega)
      have k5 : 6 * (s : Int) = (q2 : Int) := by omega
      have k6 : IntKind.i64.wrap (q2 : Int) = q2 := IntWalk.i64_in _ (by omega)
      obtain ⟨d, hd⟩ : ∃ d : Int, d = (n : Int) - s := ⟨_, rfl⟩
      have k7 : (n : Int) - s = d := hd.symm
      have k8 : IntKind.i64.wrap d = d := IntWalk.i64_in _ (by omega)
      obtain ⟨d6, hd6⟩ : ∃ d6 : Int, d6 = 6 * d := ⟨_, rfl⟩
      have k9 : 6 * d = d6 := hd6.symm
      have k10 : IntKind.i64.wrap d6 = d6 := IntWalk.i64_in _ (by omega)
      have HQ := Lib.hid (And.intro hT (And.intro hq1 (And.intro hq2 (And.intro hd hd6))))
      have hd60 : -60 ≤ d ∧ d ≤ 60 := by omega
      have hd360 : -360 ≤ d6 ∧ d6 ≤ 360 := by omega
      have hq1n : q1 ≤ 360 := by omega
      have hq2n : q2 ≤ 360 := by omega
      clear hT hq1 hq2 hd hd6
      obtain ⟨W1, hW1⟩ : ∃ W1, W1 = wo.alloc (.cells #[.slice none 0 0, .slice none 0 0] 56) := ⟨_, rfl⟩
      have hgl := HN0.out.own.lt g rfl
      have hN := HN0.out
      rw [← HWW.out] at hgl hN
      have hkb : KB base g n cap wo.heap.size l [] (.slice none 0 0) w0 wo W1 := by
        refine ⟨by rw [hW1]; exact tab_start wo _, ?_, ?_, by omega, hN.low, Nat.le_refl _⟩
        · rw [hW1]; exact hN.later ((Below.refl _ _).alloc (Nat.le_refl _) _)
        · rw [hW1]; exact (Below.refl _ _).alloc (Nat.le_refl _) _
      have hs1 : W1.heap.size = wo.heap.size + 1 := by rw [hW1]; simp
      have HKB := Lib.hid hkb
      have hS := Lib.hid (short_any wo.heap.size (wo.heap.size + 1) W1.heap.size 9 [] [0, 1, 0, 14 + (q1 : Int), 1, (n : Int), (q2 : Int), (k : Int), d6] (.slice none 0 0) (W1.alloc (.cells #[.int .i64 0, .int .i64 1, .int .i64 0, .int .i64 (14 + (q1 : Int)), .int .i64 1, .int .i64 n, .int .i64 q2, .int .i64 k, .int .i64 d6] 3)) rfl (by omega) (by intro y hy; simp at hy; omega) (by simp) ((hkb.later ((Below.refl _ _).alloc (Nat.le_refl _) _)).tab) (ints_nine _ _ _ _ _ _ _ _ _ _ _) (by simp) (by omega) (by simp [Value.ownBlock]))
      rw [hs1, hW1] at hS
      have HW1 := Lib.hid hW1
      have HS1 := Lib.hid hs1
      obtain ⟨hdr, hhdr⟩ : ∃ hdr : List Int, hdr = [0, 1, 0, 14 + (q1 : Int), 1, (n : Int), (q2 : Int), (k : Int), d6] := ⟨_, rfl⟩
      have HHDR := Lib.hid hhdr
      rw [← hhdr] at hS
      clear hgl hN hkb hs1 hW1 hhdr
      go_wp2_with fail
      refine hS.out.mono ?_
      rintro e w2 ⟨rfl, tv, hw2⟩
      rw [← HW1.out] at hw2
      have HKB2 := Lib.hid ((HKB.out.later ((Below.refl _ _).alloc (Nat.le_refl _) _)).wrote hw2)
      clear hw2
      go_wp2_with fail
      go_loopg [37] (n) (fun gk iv W => ∃ (j : Nat) (tv' : Value), gk = n - j ∧ iv = .int .i64 j ∧ j ≤ n ∧ KB base g n cap wo.heap.size l (shorts (hdr ++ nums (l.take j))) tv' w0 wo W)
      case atStart => exact ⟨0, tv, rfl, rfl, Nat.zero_le _, by simpa [nums] using HKB2.out⟩
      case round =>
        obtain ⟨j, tv', hgk2, rfl, hjn, hkb⟩ := hrel
        have HK2 := Lib.hid hgk2
        have HKBJ := Lib.hid hkb
        by_cases hlt2 : j < n
        · obtain ⟨t, ht⟩ : ∃ t, l[j]? = some t := ⟨_, List.getElem?_eq_getElem (by have := HL.out; omega)⟩
          obtain ⟨c0, c1, c2⟩ := hkb.now.at_ ht
          have hto := HOK.out t (List.mem_of_getElem? ht)
          have hjn2 : (j : Int) < n := by omega
          have hb3 : Below wr.heap.size wr (wr.alloc (.cells #[.int .i64 t.a, .int .i64 t.b, .int .i64 t.v] 27)) := (Below.refl _ _).alloc (Nat.le_refl _) _
          have hkb3 := hkb.later hb3
          have hsz := hkb3.tab.size
          have hto1 := hto.a
          have hto2 := hto.b
          have hto3 := hto.lo
          have hto4 := hto.hi
          have hS2 := Lib.hid (short_any wo.heap.size (wo.heap.size + 1) (wr.alloc (.cells #[.int .i64 t.a, .int .i64 t.b, .int .i64 t.v] 27)).heap.size 3 (shorts (hdr ++ nums (l.take j))) [(t.a : Int), (t.b : Int), t.v] tv' ((wr.alloc (.cells #[.int .i64 t.a, .int .i64 t.b, .int .i64 t.v] 27)).alloc (.cells #[.int .i64 t.a, .int .i64 t.b, .int .i64 t.v] 3)) rfl (by omega) (by intro y hy; simp at hy; omega) (by
            rw [shorts_len, List.length_append, nums_len, HHDR.out, List.length_take]
            simp
            omega) ((hkb3.later ((Below.refl _ _).alloc (Nat.le_refl _) _)).tab) (ints_three _ _ _ _ _) (by simp) (by omega) (fun e => by have := (hkb3.tab.own.lt _ e).2; omega))
          rw [World.size_alloc] at hS2
          have HT := Lib.hid ht
          generalize hta : t.a = ta at *
          generalize htb : t.b = tb at *
          generalize htv : t.v = tvv at *
          have HTT := Lib.hid (And.intro hta (And.intro htb htv))
          clear hgk2 hkb hto hkb3 ht hta htb htv hb3
          go_wp2_with fail
          refine hS2.out.mono ?_
          rintro e w4 ⟨rfl, tv4, hw4⟩
          have HKB4 := Lib.hid ((HKBJ.out.later (((Below.refl wr.heap.size wr).alloc (Nat.le_refl _) (.cells #[.int .i64 ta, .int .i64 tb, .int .i64 tvv] 27)).alloc (by simp) (.cells #[.int .i64 ta, .int .i64 tb, .int .i64 tvv] 3))).wrote hw4)
          clear hw4 c0 c1 c2
          go_wp2_with fail
          go_roundg (n - (j + 1))
          case measure => have := HK2.out; omega
          case rel =>
            refine ⟨j + 1, tv4, rfl, by go_num, by omega, ?_⟩
            have h5 := HKB4.out
            rw [← shorts_append, List.append_assoc] at h5
            obtain ⟨e1, e2, e3⟩ := HTT.out
            rw [nums_succ HT.out, e1, e2, e3]
            exact h5
        · have hjn3 : j = n := by omega
          have hcell := hkb.tab.cell
          have hown := hkb.tab.own
          have hlow := hkb.hw
          have htk : l.take j = l := List.take_of_length_le (by have := HL.out; omega)
          have hpos : 0 < (shorts (hdr ++ nums (l.take j))).length := by
            rw [shorts_len, List.length_append, HHDR.out]
            simp
            omega
          obtain ⟨q, cp, cur, hq, _⟩ := own_form hown hpos
          rw [hq] at hcell hown
          rw [htk] at hcell hown
          have HOWN := Lib.hid hown
          have HB := Lib.hid hkb.below
          clear hgk2 hkb hown hpos hjn3 htk hq
          obtain ⟨bs, hbs⟩ : ∃ bs, bs = shorts (hdr ++ nums l) := ⟨_, rfl⟩
          rw [← hbs] at hcell HOWN
          have HBS := Lib.hid hbs
          clear hbs
          go_wp2_with fail
          go_ret
          refine ⟨(q2 : Int), (k : Int), d6, q, cp, bs, ?_, rfl, ?_, ?_⟩
          · obtain ⟨hT, hq1, _⟩ := HQ.out
            rw [HBS.out, HHDR.out, HL.out, hq1]
            rfl
          · rw [← HWW.out]
            exact own_mono HOWN.out (by omega)
          · rw [← HWW.out]; exact HB.out
end Go.Proofs.Ytkfgmjcdaggjcaa.Kp
