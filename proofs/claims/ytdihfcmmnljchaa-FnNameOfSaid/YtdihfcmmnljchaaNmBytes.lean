/- A table of names written, walked. -/
import Derived.Test.YtdihfcmmnljchaaNmMem
namespace Go.Proofs.Ytdihfcmmnljchaa.Nm
open Go Go.RowKit

/-- The records' numbers, one record behind the other. -/
def flds (l : List Rec) (ats : List Nat) : List Nat := (l.zip ats).flatMap fun p => p.1.fields p.2
def Placed (l : List Rec) (ats : List Nat) (d : List Nat) : Prop := ∀ (j : Nat) (x : Rec) (a : Nat), l[j]? = some x → ats[j]? = some a → a + x.bytes.length ≤ d.length ∧ (d.drop a).take x.bytes.length = x.bytes

theorem frozen_in {w : World} {g j : Nat} {cur : Array Value} {t : TypeId} (h : w.heap[g]? = some (.cells cur t (0, 0))) : w.frozen? ⟨g, j, none⟩ = false := by
  unfold World.frozen?
  dsimp only
  rw [h]
  simp
theorem ints_three (w : World) (t : TypeId) (a b c : Nat) (x y z : Int) (hx : x = a) (hy : y = b) (hz : z = c) : Ints (w.alloc (.cells #[.int .i64 x, .int .i64 y, .int .i64 z] t)) w.heap.size [a, b, c] := by
  subst hx hy hz
  intro j v hj
  rw [cell_in (heap_alloc_new w _)]
  match j, hj with
  | 0, hj | 1, hj | 2, hj => simp at hj; subst hj; rfl
theorem tab_start (W : World) (z : Value) : Tab W.heap.size (W.heap.size + 1) [] (W.alloc (.cells #[.slice none 0 0, z] 54)) (.slice none 0 0) := by
  have h := heap_alloc_new W (.cells #[.slice none 0 0, z] 54)
  exact ⟨by rw [cell_in h]; rfl, frozen_in h, World.ownsRow_nil _ _ _ _, Nat.lt_succ_self _, by simp⟩

/-- In the walk over a text: the record's variable, the iterator's place, the bytes so far. -/
structure Inner (wo W : World) (E : Array Value) (t : ByteArray) (pos : Nat) (bv : Value) (bs : List Nat) : Prop where
  iter : W.heap[wo.heap.size + 1]? = some (.stringIter t pos)
  rec_ : W.heap[wo.heap.size]? = some (.cells E 35 (0, 0))
  own : W.ownsRow (wo.heap.size + 2) 5 1 bv bs.length (byteCells bs)
  size : wo.heap.size + 2 ≤ W.heap.size
  below : Below wo.heap.size wo W

theorem Inner.start (wo : World) (E : Array Value) (t : ByteArray) : Inner wo ((wo.alloc (.cells E 35)).iter t 0) E t 0 (.slice none 0 0) [] := by
  have hs : (wo.alloc (.cells E 35)).heap.size = wo.heap.size + 1 := by simp
  refine ⟨?_, ?_, World.ownsRow_nil _ _ _ _, ?_, ?_⟩
  · have := World.iter_heap (wo.alloc (.cells E 35)) t 0
    rwa [hs] at this
  · show (((wo.alloc (.cells E 35))).alloc (.stringIter t 0)).heap[wo.heap.size]? = _
    rw [Below.heap_alloc _ _ _ (by omega)]
    exact heap_alloc_new _ _
  · show wo.heap.size + 2 ≤ ((wo.alloc (.cells E 35)).alloc (.stringIter t 0)).heap.size
    rw [World.size_alloc, hs]
    omega
  · exact ((Below.refl wo.heap.size wo).alloc (Nat.le_refl _) _).alloc (by omega) _
theorem Inner.next {wo W : World} {E : Array Value} {t : ByteArray} {pos : Nat} {bv : Value} {bs : List Nat} (h : Inner wo W E t pos bv bs) (pos' : Nat) : Inner wo (W.iterAt (wo.heap.size + 1) t pos') E t pos' bv bs :=
  ⟨Lib.iterAt_heap _ _ _ _ _ h.iter, by rw [Lib.iterAt_other _ _ _ _ _ (by omega)]; exact h.rec_, own_block h.own (fun q hq => Lib.iterAt_other _ _ _ _ _ (by have := (h.own.lt q hq).1; omega)), by rw [Lib.iterAt_size]; exact h.size, Lib.below_iterAt h.below (by omega) _ _⟩
theorem Inner.grown {wo W W' : World} {E : Array Value} {t : ByteArray} {pos : Nat} {bv bv' : Value} {bs bs' : List Nat} {o : Obj} (h : Inner wo W E t pos bv bs) (hg : (W.alloc o).grownBy W' bv.ownBlock) (ho : W'.ownsRow (wo.heap.size + 2) 5 1 bv' bs'.length (byteCells bs')) : Inner wo W' E t pos bv' bs' := by
  have hs := h.size
  have hgs := hg.size
  rw [World.size_alloc] at hgs
  have hbl : ∀ q, q < wo.heap.size + 2 → W'.heap[q]? = W.heap[q]? := fun q hq => by
    rw [hg.block q (by rw [World.size_alloc]; omega) (fun e => by have := (h.own.lt q e.symm).1; omega), Below.heap_alloc _ _ _ (by omega)]
  exact ⟨by rw [hbl _ (by omega)]; exact h.iter, by rw [hbl _ (by omega)]; exact h.rec_, ho, by omega, (h.below.alloc (by omega) _).grown hg (by rw [World.size_alloc]; omega) (fun q hq => by have := (h.own.lt q hq).1; omega)⟩

theorem text_next {rs : List Nat} {j r : Nat} (h : rs[j]? = some r) : bytes16 (utf16 (rs.take (j + 1))) = bytes16 (utf16 (rs.take j)) ++ bytes16 (u16 r) := by
  obtain ⟨hl, hr⟩ := List.getElem?_eq_some_iff.1 h
  rw [List.take_succ_eq_append_getElem hl, hr]
  simp [utf16, bytes16]
theorem and_3 (y : Nat) (h : y < 1000000) : bits .and .i32 (y : Int) 3 = ((y % 4 : Nat) : Int) := by
  show IntKind.i32.wrap ((BitVec.ofInt 32 (y : Int) &&& BitVec.ofInt 32 3).toNat : Int) = _
  rw [BitVec.toNat_and, ofInt32 y (by omega)]
  have e : (BitVec.ofInt 32 3).toNat = 2 ^ 2 - 1 := by decide
  rw [e, Nat.and_two_pow_sub_one_eq_mod]
  simp [IntKind.wrap, IntKind.bits, IntKind.signed]
  omega
theorem own_slice {w : World} {base : Nat} {v : Value} {b : List Nat} (h : w.ownsRow base 5 1 v b.length (byteCells b)) : ∃ BA bcap, v = .slice BA b.length bcap := (own_src h).slice

theorem Src.mono {W : World} {lo lo' : Nat} {bv : Value} {b : List Nat} (h : Src W lo bv b) (hl : lo' ≤ lo) : Src W lo' bv b := by
  rcases h with h | ⟨q, cap, e, h1, h2, hc⟩
  · exact Or.inl h
  · exact Or.inr ⟨q, cap, e, by omega, h2, hc⟩

theorem shorts_append (a b : List Nat) : shorts (a ++ b) = shorts a ++ shorts b := by simp [shorts]
theorem fields_len (x : Rec) (a : Nat) : (x.fields a).length = 6 := by unfold Rec.fields; cases x.mac <;> rfl
theorem flds_len (l : List Rec) (ats : List Nat) : (flds l ats).length = (l.zip ats).length * 6 := by
  unfold flds
  generalize l.zip ats = z
  induction z with
  | nil => rfl
  | cons p z ih => rw [List.flatMap_cons, List.length_append, ih, fields_len, List.length_cons]; omega
theorem flds_snoc {l : List Rec} {ats : List Nat} {k a : Nat} {x : Rec} (hk : ats.length = k) (hx : l[k]? = some x) : flds l (ats ++ [a]) = flds l ats ++ x.fields a := by
  subst hk
  unfold flds
  have e : l.zip (ats ++ [a]) = l.zip ats ++ [(x, a)] := by
    induction l generalizing ats with
    | nil => simp at hx
    | cons y l ih =>
      cases ats with
      | nil => simp at hx; subst hx; simp
      | cons b ats =>
        have := ih (ats := ats) (by simpa using hx)
        simp [this]
  rw [e, List.flatMap_append]
  simp
theorem Placed.next {l : List Rec} {ats d z : List Nat} {k a : Nat} {x : Rec} (h : Placed l ats d) (hk : ats.length = k) (hx : l[k]? = some x) (ha : a + x.bytes.length ≤ (d ++ z).length) (hb : ((d ++ z).drop a).take x.bytes.length = x.bytes) : Placed l (ats ++ [a]) (d ++ z) := by
  intro j y b hy hj
  by_cases e : j = k
  · subst e
    rw [List.getElem?_append_right (by omega), hk, Nat.sub_self] at hj
    simp at hj
    subst hj
    rw [hx] at hy
    obtain rfl := Option.some.inj hy
    exact ⟨ha, hb⟩
  · have hjl := (List.getElem?_eq_some_iff.1 hj).1
    rw [List.length_append, List.length_singleton] at hjl
    rw [List.getElem?_append_left (by omega)] at hj
    obtain ⟨h1, h2⟩ := h j y b hy hj
    refine ⟨by rw [List.length_append]; omega, ?_⟩
    rw [List.drop_append_of_le_length (by omega), List.take_append_of_le_length (by rw [List.length_drop]; omega)]
    exact h2

theorem own_mono {w : World} {base base' n : Nat} {e : TypeId} {size : Nat} {v : Value} {xs : List Value} (h : w.ownsRow base e size v n xs) (hb : base' ≤ base) : w.ownsRow base' e size v n xs := by
  obtain ⟨hl, h | ⟨g, cap, cur, hv, hg, hrest⟩⟩ := h
  · exact ⟨hl, .inl h⟩
  · exact ⟨hl, .inr ⟨g, cap, cur, hv, Nat.le_trans hb hg, hrest⟩⟩

def Written (l : List Rec) (n : Nat) (w : World) (e : Ending) (w' : World) : Prop :=
  ∃ (l' : List Rec) (ats d : List Nat) (q cp : Nat), l'.Perm l ∧ ats.length = n ∧ Placed l' ats d ∧ d.length ≤ 1200 * n ∧ e = .returned (.slice (some ⟨q, 0, none⟩) (shorts ([0, n, 6 + 12 * n] ++ flds l' ats) ++ d).length cp) ∧
    w'.ownsRow w.heap.size 5 1 (.slice (some ⟨q, 0, none⟩) (shorts ([0, n, 6 + 12 * n] ++ flds l' ats) ++ d).length cp) (shorts ([0, n, 6 + 12 * n] ++ flds l' ats) ++ d).length (byteCells (shorts ([0, n, 6 + 12 * n] ++ flds l' ats) ++ d)) ∧ Below w.heap.size w w'

set_option maxRecDepth 1000000 in
set_option maxHeartbeats 4000000 in
theorem bytes_any (b00 g n cap nw capw : Nat) (A : Option Addr) (l : List Rec) (w : World) (hl : l.length = n) (h0 : 0 < n) (hn10 : n ≤ 10) (hok : ∀ x ∈ l, x.Ok) (hown : w.ownsRow b00 35 3 (.slice (some ⟨g, 0, none⟩) n cap) n (recCells l)) (hnw : nw ≤ 2147483647) (hA : Ways w A nw) :
    Calls Try.prog 8 #[.slice (some ⟨g, 0, none⟩) n cap, .slice A nw capw] w (Written l n w) := by
  obtain ⟨W0, hW0⟩ : ∃ W0, W0 = w.alloc (.cells #[.slice A nw capw, .int .i64 0, .bool false] 47) := ⟨_, rfl⟩
  have hs0 : W0.heap.size = w.heap.size + 1 := by subst hW0; simp
  have hb0 : Below w.heap.size w W0 := by subst hW0; exact (Below.refl _ _).alloc (Nat.le_refl _) _
  have hwr : Writer w.heap.size A nw capw 0 W0 := by
    subst hW0
    have := heap_alloc_new w (.cells #[.slice A nw capw, .int .i64 0, .bool false] 47)
    exact ⟨by rw [cell_in this]; rfl, by rw [cell_in this]; rfl, frozen_in this⟩
  have hown0 : W0.ownsRow b00 35 3 (.slice (some ⟨g, 0, none⟩) n cap) n (recCells l) := by subst hW0; exact hown.alloc _
  have hC := Lib.hid (clone_any b00 g n cap l W0 hl h0 hn10 hown0)
  have HL := Lib.hid hl
  have HOK := Lib.hid hok
  have HA := Lib.hid hA
  have HS0 := Lib.hid hs0
  have HB0 := Lib.hid hb0
  have HWR := Lib.hid hwr
  rw [hW0] at hC
  have HW0 := Lib.hid hW0
  clear hl hok hown hA hs0 hb0 hwr hown0 hW0
  go_enter Try.func8, Try.ntmps8
  go_wp2_with fail
  refine hC.out.mono ?_
  rintro e w1 ⟨g', cap', rfl, ho1, hb1⟩
  rw [← HW0.out] at ho1 hb1
  have hS := Lib.hid (sort_any W0.heap.size g' n cap' l w1 HL.out hn10 (fun x hx => (HOK.out x hx).id) ho1 hb1.size)
  have HB1 := Lib.hid hb1
  have HO1 := Lib.hid ho1
  clear ho1 hb1
  go_wp2_with fail
  refine hS.out.mono ?_
  rintro e w2 ⟨rfl, l', hs⟩
  have HS := Lib.hid hs
  clear hs
  obtain ⟨T, hT⟩ : ∃ T, T = w2.heap.size := ⟨_, rfl⟩
  obtain ⟨W3, hW3⟩ : ∃ W3, W3 = w2.alloc (.cells #[.slice none 0 0, .slice none 0 0] 54) := ⟨_, rfl⟩
  have hsz3 : W3.heap.size = T + 1 := by rw [hW3, World.size_alloc, hT]
  have hlen' : l'.length = n := by rw [HS.out.perm.length_eq, HL.out]
  have hm3 : Mem w w.heap.size T W0.heap.size g' cap' nw capw A l' 0 [] [] (.slice none 0 0) (.slice none 0 0) W3 := by
    have hbw2 : Below W0.heap.size W0 w2 := HB1.out.trans (HS.out.below)
    have hb3 : Below W0.heap.size W0 W3 := by rw [hW3]; exact hbw2.alloc hbw2.size _
    have hsW := HS0.out
    have hw2 := hbw2.size
    have hgl := HS.out.own.lt g' rfl
    have hR : w.heap.size < W0.heap.size := by omega
    refine ⟨⟨by rw [← HWR.out.ways]; exact hb3.cell hR, by rw [← HWR.out.count]; exact hb3.cell hR, by rw [← HWR.out.free]; exact hb3.frozen hR⟩, ?_, World.ownsRow_nil _ _ _ _, fun q hq => by simp [Value.ownBlock] at hq, ?_, HB0.out.trans (hb3.mono (by omega)), by omega, by omega, by omega, Nat.le_refl _, by omega⟩
    · rw [hW3, hT]; exact tab_start w2 _
    · rw [hlen', hW3]; exact HS.out.own.alloc _
  have HM3 := Lib.hid hm3
  have hC4 := Lib.hid (short_any T (T + 1) W3.heap.size 3 [] [0, n, 6 + 12 * n] (.slice none 0 0) (W3.alloc (.cells #[.int .i64 0, .int .i64 n, .int .i64 (6 + 12 * (n : Int))] 3)) rfl (by omega) (by intro x hx; simp at hx; omega) (by simp) ((hm3.later ((Below.refl _ _).alloc (Nat.le_refl _) _)).tab) (ints_three _ _ _ _ _ _ _ _ rfl rfl (by omega)) (by simp) (by omega) (by simp [Value.ownBlock]))
  rw [hsz3] at hC4
  rw [hW3, hT] at hC4
  have HT := Lib.hid hT
  have HW3 := Lib.hid hW3
  have HSZ3 := Lib.hid hsz3
  have HLEN := Lib.hid hlen'
  clear hm3 hT hW3 hsz3 hlen'
  go_wp2_with fail
  refine hC4.out.mono ?_
  rintro e w4 ⟨rfl, tv, hw4⟩
  rw [← HT.out, ← HW3.out] at hw4
  rw [← HT.out]
  have HM4 := Lib.hid ((HM3.out.later ((Below.refl _ _).alloc (Nat.le_refl _) _)).wrote hw4)
  clear hw4
  go_wp2
  go_loopg [34, 7] (n) (fun gk iv dv W => ∃ (k : Nat) (ats d : List Nat) (tv : Value) (DA : Option Addr) (dcap c : Nat), k ≤ n ∧ gk = n - k ∧ iv = .int .i64 k ∧ dv = .slice DA d.length dcap ∧ ats.length = k ∧ Placed l' ats d ∧ d.length ≤ 1200 * k ∧ c ≤ k ∧ Mem w w.heap.size T W0.heap.size g' cap' nw capw A l' c (shorts ([0, n, 6 + 12 * n] ++ flds l' ats)) d tv dv W)
  case atStart => exact ⟨0, [], [], tv, none, 0, 0, Nat.zero_le _, rfl, rfl, rfl, rfl, fun j x a _ h => by simp at h, by simp, Nat.le_refl _, by simpa [flds] using HM4.out⟩
  case round =>
    obtain ⟨k, ats, d, tv', DA, dcap, c, hk, hgk, rfl, rfl, hats, hpl, hdl, hc, hmem⟩ := hrel
    have HK := Lib.hid hgk
    have HATS := Lib.hid hats
    have HPL := Lib.hid hpl
    have HMEM := Lib.hid hmem
    clear hgk hats hpl hmem
    by_cases hlt : k < n
    · obtain ⟨x, hx⟩ : ∃ x, l'[k]? = some x := ⟨_, List.getElem?_eq_getElem (by have := HLEN.out; omega)⟩
      have hxm := HS.out.perm.subset (List.mem_of_getElem? hx)
      have hxok := HOK.out x hxm
      have hrc := recCells_get l' k x hx
      have hl3 : (recCells l').length = l'.length * 3 := recCells_len l'
      have hkl : k < l'.length := by have := HLEN.out; omega
      have hown := HMEM.out.recs
      have c0 : wr.cell? ⟨g', k * 3, none⟩ = some (.int .i64 (x.id : Nat)) := by rw [hown.cellAt _ (by omega)]; exact hrc.1
      have c1 : wr.cell? ⟨g', k * 3 + 1, none⟩ = some (.bool x.mac) := by rw [hown.cellAt _ (by omega)]; exact hrc.2.1
      have c2 : wr.cell? ⟨g', k * 3 + 2, none⟩ = some (.string (str x.runes)) := by rw [hown.cellAt _ (by omega)]; exact hrc.2.2
      have hkn : (k : Int) < n := by omega
      have HX := Lib.hid hx
      have HXOK := Lib.hid hxok
      obtain ⟨tx, htx⟩ : ∃ tx, tx = str x.runes := ⟨_, rfl⟩
      obtain ⟨mac, hmac⟩ : ∃ mac, mac = x.mac := ⟨_, rfl⟩
      obtain ⟨xi, hxi⟩ : ∃ xi, xi = x.id := ⟨_, rfl⟩
      have hxi8 : xi < 8 := by rw [hxi]; exact hxok.id
      rw [← hxi] at c0
      rw [← hmac] at c1
      rw [← htx] at c2
      have HTX := Lib.hid htx
      have HMAC := Lib.hid hmac
      have HXI := Lib.hid hxi
      obtain ⟨wo, rfl⟩ : ∃ wo : World, wo = wr := ⟨_, rfl⟩
      clear hx hxm hxok hrc hl3 hkl hown htx hmac hxi
      go_upto_if 39 with fail
      go_cut [10] (fun bv W => ∃ (BA : Option Addr) (bcap : Nat), bv = .slice BA x.bytes.length bcap ∧ Src W wo.heap.size bv x.bytes ∧ W.heap[wo.heap.size]? = some (.cells #[.int .i64 (xi : Nat), .bool mac, .string tx] 35 (0, 0)) ∧ Below wo.heap.size wo W)
      case first =>
        cases mac with
        | true =>
          have hlow : ∀ r ∈ x.runes, r < 128 := fun r hr => (by have := HXOK.out.all r hr; rw [← HMAC.out] at this; exact this.low)
          have hcv := fun W => run_bytes_of_string (P := Try.prog) W 9 24 5 tx (by kernel_rfl) Try.underlying24 (by kernel_rfl)
          have HCV := Lib.hid hlow
          clear hlow
          go_wp2_with fail
          go_meet
          have hb : x.bytes = x.runes := by simp [Rec.bytes, ← HMAC.out]
          obtain ⟨ht, hsrc⟩ := src_text (wo.alloc (.cells #[.int .i64 (xi : Nat), .bool true, .string tx] 35)) wo.heap.size x.runes HCV.out (by simp) (grownCap (wo.alloc (.cells #[.int .i64 (xi : Nat), .bool true, .string tx] 35)) tx.size 0 5) ((bytesRow tx (grownCap (wo.alloc (.cells #[.int .i64 (xi : Nat), .bool true, .string tx] 35)) tx.size 0 5)).size, (bytesRow tx (grownCap (wo.alloc (.cells #[.int .i64 (xi : Nat), .bool true, .string tx] 35)) tx.size 0 5)).size + 1)
          rw [← HTX.out] at ht hsrc
          rw [World.size_alloc, ← ht] at hsrc
          refine ⟨_, _, by rw [hb, ← ht], by rw [hb]; exact hsrc, ?_, ?_⟩
          · show ((wo.alloc (.cells #[.int .i64 (xi : Nat), .bool true, .string tx] 35)).alloc _).heap[wo.heap.size]? = _
            rw [Below.heap_alloc _ _ _ (by simp)]
            exact heap_alloc_new _ _
          · exact (((Below.refl _ _).alloc (Nat.le_refl _) _).alloc (by simp) _).drew
        | false =>
          have HX2 := Lib.hid (show x.bytes = bytes16 (utf16 x.runes) by simp [Rec.bytes, ← HMAC.out])
          have hv : ∀ r ∈ x.runes, Val r := fun r hr => (HXOK.out.all r hr).val
          have HV := Lib.hid hv
          have hfew := HXOK.out.few
          clear hv
          go_wp2_with fail
          go_loopg [10] (x.runes.length) (fun gk bv W => ∃ (j : Nat) (BA : Option Addr) (bcap : Nat), j ≤ x.runes.length ∧ gk = x.runes.length - j ∧ bv = .slice BA (bytes16 (utf16 (x.runes.take j))).length bcap ∧ Inner wo W #[.int .i64 (xi : Nat), .bool false, .string tx] tx (utf8 (x.runes.take j)).length bv (bytes16 (utf16 (x.runes.take j))))
          case atStart => exact ⟨0, none, 0, Nat.zero_le _, rfl, rfl, Inner.start wo _ tx⟩
          case round =>
            obtain ⟨j, BA, bcap, hj, hgj, rfl, hin⟩ := hrel
            have HJ := Lib.hid hgj
            have HIN := Lib.hid hin
            have hiter := hin.iter
            clear hgj hin
            by_cases hjl : j < x.runes.length
            · obtain ⟨r, hr⟩ : ∃ r, x.runes[j]? = some r := ⟨_, List.getElem?_eq_getElem hjl⟩
              have hda := decode_at x.runes HV.out j r hr
              have hal := HXOK.out.all r (List.mem_of_getElem? hr)
              rw [← HTX.out] at hda
              obtain ⟨hpos, hdec, hnext⟩ := hda
              have hnx := fun ty => Lib.run_next_any_at (P := Try.prog) wr (wo.heap.size + 1) tx _ ty hiter hpos
              rw [hdec, ← hnext] at hnx
              have htn := text_next hr
              obtain ⟨bs, hbs⟩ : ∃ bs, bs = bytes16 (utf16 (x.runes.take j)) := ⟨_, rfl⟩
              obtain ⟨p1, hp1⟩ : ∃ p1, p1 = (utf8 (x.runes.take (j + 1))).length := ⟨_, rfl⟩
              have HW2 := HIN.out.next p1
              rw [← hbs] at htn HW2 ⊢
              rw [← hp1] at hnx
              obtain ⟨W2, hW2⟩ : ∃ W2, W2 = wr.iterAt (wo.heap.size + 1) tx p1 := ⟨_, rfl⟩
              rw [← hW2] at hnx HW2
              have hown2 := HW2.own
              have hsz2 := HW2.size
              have HTN := Lib.hid htn
              have HP1 := Lib.hid hp1
              have HWN := Lib.hid HW2
              have hbl : bs.length ≤ 1200 := (by rw [hbs, bytes16_len]; have h1 := utf16_len (x.runes.take j); have h2 : (x.runes.take j).length ≤ j := List.length_take_le _ _; omega)
              obtain ⟨i0, hi, hz0, hz1, hz2⟩ := info_parts info5
              unfold Allowed at hal
              clear hiter hr hpos hdec hnext htn hbs hp1 HW2 hW2
              by_cases h16 : (65536 : Int) ≤ r
              · have r0 : (r : Int) < 131072 := by omega
                obtain ⟨y, hy⟩ : ∃ y : Nat, y = r - 65536 := ⟨_, rfl⟩
                have y0 : (r : Int) - 65536 = (y : Int) := by omega
                have y1 : IntKind.i32.wrap (y : Int) = (y : Int) := IntWalk.i32_in _ (by omega)
                have y2 : y < 65536 := by omega
                have d0 : decide ((65536 : Int) ≤ r) = true := decide_eq_true h16
                obtain ⟨a, ha⟩ : ∃ a : Nat, a = y / 1024 := ⟨_, rfl⟩
                obtain ⟨b, hb⟩ : ∃ b : Nat, b = y / 256 := ⟨_, rfl⟩
                obtain ⟨c', hc'⟩ : ∃ c : Nat, c = b % 4 := ⟨_, rfl⟩
                have y3 := and_3 b (by omega)
                rw [← hc'] at y3
                have z1 : (y : Int) / 262144 = 0 := by omega
                have z2 : (y : Int) / 1024 = (a : Int) := by omega
                have z3 : (y : Int) / 256 = (b : Int) := by omega
                have z4 : a < 64 := by omega
                have z5 : c' < 4 := by omega
                have HY := Lib.hid (And.intro hy (And.intro ha (And.intro hb hc')))
                clear hal hy ha hb hc' h16
                go_wp2_with (at_builtin; go_must (refine wpList_append_own _ rfl (.tmp 53) (.tmp 68) 24 rfl (wo.heap.size + 2) 5 i0 _ 1 1 Try.underlying24 hi hz0 hz1 hz2 rfl (by decide) _ _ _ rfl (hown2.alloc _) ⟨W2.heap.size, 0, none⟩ 4 4 [.int .u8 216, .int .u8 (a : Int), .int .u8 (220 + (c' : Int)), .int .u8 ((y : Int) % 256)] rfl rfl (cells_new W2 [.int .u8 216, .int .u8 (a : Int), .int .u8 (220 + (c' : Int)), .int .u8 ((y : Int) % 256)] 5) (ints_oneCell .u8 [_, _, _, _]) ?_ ?_ ?_ ?_))
                · unfold maxLen; omega
                · omega
                · omega
                intro bv4 w4 hown4 hg4 _
                have hl4 : (bs ++ bytes16 (u16 r)).length = bs.length + 4 := by
                  rw [List.length_append, u16, if_pos (by omega)]; rfl
                have hc4 : byteCells (bs ++ bytes16 (u16 r)) = byteCells bs ++ [.int .u8 216, .int .u8 (a : Int), .int .u8 (220 + (c' : Int)), .int .u8 ((y : Int) % 256)] := by
                  obtain ⟨e1, e2, e3, e4⟩ := HY.out
                  rw [byteCells_append, u16, if_pos (by omega)]
                  congr 1
                  simp [bytes16, two, byteCells]
                  omega
                rw [← hl4, ← hc4] at hown4
                have HI4 := Lib.hid (HWN.out.grown hg4 hown4)
                obtain ⟨BA4, bcap4, rfl⟩ := own_slice hown4
                clear hown4 hg4 hl4 hc4 hown2 hnx
                go_wp2
                go_roundg (x.runes.length - (j + 1))
                case measure => have := HJ.out; omega
                case rel => exact ⟨j + 1, BA4, bcap4, by omega, rfl, by rw [HTN.out], by rw [← HP1.out, HTN.out]; exact HI4.out⟩
              · have d0 : decide ((65536 : Int) ≤ r) = false := decide_eq_false h16
                have r0 : (r : Int) < 65536 := by omega
                clear hal
                go_wp2_with (at_builtin; go_must (refine wpList_append_own _ rfl (.tmp 70) (.tmp 76) 24 rfl (wo.heap.size + 2) 5 i0 _ 1 1 Try.underlying24 hi hz0 hz1 hz2 rfl (by decide) _ _ _ rfl (hown2.alloc _) ⟨W2.heap.size, 0, none⟩ 2 2 [.int .u8 ((r : Int) / 256), .int .u8 ((r : Int) % 256)] rfl rfl (two_new _ _ _) (ints_oneCell .u8 [_, _]) ?_ ?_ ?_ ?_))
                · unfold maxLen; omega
                · omega
                · omega
                intro bv4 w4 hown4 hg4 _
                have hl4 : (bs ++ bytes16 (u16 r)).length = bs.length + 2 := by
                  rw [List.length_append, u16, if_neg (by omega)]; rfl
                have hc4 : byteCells (bs ++ bytes16 (u16 r)) = byteCells bs ++ [.int .u8 ((r : Int) / 256), .int .u8 ((r : Int) % 256)] := by
                  rw [byteCells_append, u16, if_neg (by omega)]
                  congr 1
                  simp [bytes16, two, byteCells]
                  omega
                rw [← hl4, ← hc4] at hown4
                have HI4 := Lib.hid (HWN.out.grown hg4 hown4)
                obtain ⟨BA4, bcap4, rfl⟩ := own_slice hown4
                clear hown4 hg4 hl4 hc4 hown2 hnx
                go_wp2
                go_roundg (x.runes.length - (j + 1))
                case measure => have := HJ.out; omega
                case rel => exact ⟨j + 1, BA4, bcap4, by omega, rfl, by rw [HTN.out], by rw [← HP1.out, HTN.out]; exact HI4.out⟩
            · have hjn : j = x.runes.length := by omega
              have hall : x.runes.take j = x.runes := List.take_of_length_le (by omega)
              rw [hall] at HIN hiter
              have hend : ¬ (utf8 x.runes).length < tx.size := by rw [HTX.out, size_str]; omega
              have hnx := fun ty => Lib.run_next_end_at (P := Try.prog) wr (wo.heap.size + 1) tx _ ty hiter hend
              have HALL := Lib.hid hall
              clear hiter hjn hall hend
              go_wp2
              go_meet
              have h1 := HIN.out
              refine ⟨BA, bcap, by rw [HX2.out, HALL.out], ?_, h1.rec_, h1.below⟩
              rw [HX2.out]
              have h2 := (own_src h1.own).mono (lo' := wo.heap.size) (by omega)
              rw [HALL.out]
              exact h2
      case rest =>
        obtain ⟨BA, bcap, rfl, hsrc, hrec, hb⟩ := hcut
        obtain ⟨W1, rfl⟩ : ∃ W : World, W = wc := ⟨_, rfl⟩
        clear c0 c1 c2
        have hM1 := HMEM.out.later hb
        have hbl := HXOK.out.bytes_le
        have hC15 := Lib.hid (index_any (T + 1) DA BA d.length x.bytes.length dcap bcap wo.heap.size d x.bytes W1 rfl rfl (by omega) (by omega) hM1.data hsrc)
        have HM1 := Lib.hid hM1
        have HSRC := Lib.hid hsrc
        have HREC := Lib.hid hrec
        obtain ⟨bl, hbl2⟩ : ∃ bl, bl = x.bytes.length := ⟨_, rfl⟩
        rw [← hbl2] at hC15 hbl HSRC ⊢
        have HBL := Lib.hid hbl2
        have HB := Lib.hid hb
        clear hM1 hsrc hrec hb hbl2
        go_wp2_with fail
        refine hC15.out.mono ?_
        rintro e w5 ⟨⟨r, rfl, hf⟩, q, hq⟩
        have hb5 : Below W1.heap.size W1 w5 := by rw [hq]; exact below_drewN (Below.refl _ _) q
        have HM5 := Lib.hid (HM1.out.later hb5)
        have HSRC5 := Lib.hid (HSRC.out.later hb5 (Nat.le_refl _))
        have hE : wo.heap.size < W1.heap.size := (Array.getElem?_eq_some_iff.1 HREC.out).1
        have HREC5 := Lib.hid ((hb5.block _ hE).trans HREC.out)
        have HF := Lib.hid hf
        clear hb5 hf hq
        go_upto_region 21 with fail
        go_cut [89] (fun v W => ∃ (b : Bool) (c2 : Nat), v = .bool b ∧ (b = true → ∃ p : Nat, r = p ∧ p + x.bytes.length ≤ d.length ∧ (d.drop p).take x.bytes.length = x.bytes) ∧ c2 ≤ c + 1 ∧ Mem w w.heap.size T W0.heap.size g' cap' nw capw A l' c2 (shorts ([0, n, 6 + 12 * n] ++ flds l' ats)) d tv' (.slice DA d.length dcap) W ∧ Kept (fun k => k = w.heap.size) w5 W)
        case first =>
          rcases HF.out with rfl | ⟨p, rfl, hp1, hp2⟩
          · go_wp2_with fail
            go_meet
            exact ⟨false, c, rfl, by simp, by omega, HM5.out, Kept.refl _ _⟩
          · have HP := Lib.hid (And.intro hp1 hp2)
            have hW := Lib.hid (way_any w.heap.size A nw capw c w5 hnw (by omega) HM5.out.writer (fun hp => by
              obtain ⟨b, off, e, h⟩ := HA.out hp
              refine ⟨b, off, e, fun j hj => ?_⟩
              obtain ⟨y, hy, hc⟩ := h j hj
              exact ⟨y, hy, by rw [← hc]; exact HM5.out.below.cell (World.block_lt_of_cell? w _ hc)⟩))
            clear hp1 hp2
            go_wp2_with fail
            refine hW.out.mono ?_
            rintro e w6 ⟨⟨r6, rfl⟩, hch⟩
            have HCH := Lib.hid hch
            clear hch
            go_wp2_with fail
            go_meet
            obtain ⟨c2, hc2, hm2⟩ := HM5.out.chose HCH.out
            exact ⟨_, c2, rfl, fun _ => ⟨p, rfl, HP.out.1, HP.out.2⟩, hc2, hm2, HCH.out.kept⟩
        case rest =>
          obtain ⟨b, c2, rfl, hbt, hc2, hm2, hk2⟩ := hcut
          obtain ⟨W6, rfl⟩ : ∃ W : World, W = wc := ⟨_, rfl⟩
          have HBT := Lib.hid hbt
          have HM6 := Lib.hid hm2
          have hRo : w.heap.size < wo.heap.size := by have := HMEM.out.hRT; have := HMEM.out.hT; omega
          have hE5 : wo.heap.size < w5.heap.size := (Array.getElem?_eq_some_iff.1 HREC5.out).1
          have hsrc6 : Src W6 wo.heap.size (.slice BA bl bcap) x.bytes := by
            rcases HSRC5.out with h | ⟨q, cap, e, h1, h2, h3⟩
            · exact Or.inl h
            · exact Or.inr ⟨q, cap, e, h1, Nat.lt_of_lt_of_le h2 hk2.size, fun j v hj => by rw [← h3 j v hj]; exact World.cell?_of_block (hk2.block q h2 (by omega))⟩
          have HSRC6 := Lib.hid hsrc6
          have HREC6 := Lib.hid ((hk2.block _ hE5 (by omega)).trans HREC5.out)
          have hT6 := hm2.hT
          clear hbt hm2 hk2 hsrc6
          go_upto_if 89 with fail
          go_cut [13, 7] (fun av dv W => ∃ (a : Nat) (z : List Nat) (DA2 : Option Addr) (dcap2 : Nat), av = .int .i64 a ∧ dv = .slice DA2 (d ++ z).length dcap2 ∧ Mem w w.heap.size T W0.heap.size g' cap' nw capw A l' c2 (shorts ([0, n, 6 + 12 * n] ++ flds l' ats)) (d ++ z) tv' dv W ∧ a + x.bytes.length ≤ (d ++ z).length ∧ ((d ++ z).drop a).take x.bytes.length = x.bytes ∧ (d ++ z).length ≤ d.length + bl ∧ W.heap[wo.heap.size]? = some (.cells #[.int .i64 (xi : Nat), .bool mac, .string tx] 35 (0, 0)))
          case first =>
            cases b with
            | true =>
              obtain ⟨p, rfl, hp1, hp2⟩ := HBT.out rfl
              have HP := Lib.hid (And.intro hp1 hp2)
              clear hp1 hp2
              go_wp2_with fail
              go_meet
              exact ⟨p, [], DA, dcap, rfl, by rw [List.append_nil], by rw [List.append_nil]; exact HM6.out, by rw [List.append_nil]; exact HP.out.1, by rw [List.append_nil]; exact HP.out.2, by rw [List.append_nil]; omega, HREC6.out⟩
            | false =>
              go_wp2_with (at_builtin; go_must (refine wpList_append_src rfl (.tmp 91) (.tmp 92) rfl (T + 1) wo.heap.size _ _ d x.bytes rfl rfl HM6.out.data HSRC6.out ?_ ?_ ?_ ?_))
              · omega
              · have := HBL.out; omega
              · omega
              intro dv7 w7 hown7 hg7 hat7
              rw [← List.length_append] at hown7
              have HM7 := Lib.hid (HM6.out.grown hg7 hat7 hown7)
              have hrec7 : w7.heap[wo.heap.size]? = some (.cells #[.int .i64 (xi : Nat), .bool mac, .string tx] 35 (0, 0)) := by
                have hE6 : wo.heap.size < W6.heap.size := (Array.getElem?_eq_some_iff.1 HREC6.out).1
                refine (hg7.block _ hE6 (fun e => ?_)).trans HREC6.out
                have := (HMEM.out.data.lt _ e.symm).2
                omega
              have HREC7 := Lib.hid hrec7
              obtain ⟨DA7, dcap7, rfl⟩ := own_slice hown7
              clear hown7 hg7 hat7 hrec7
              go_wp2_with fail
              go_meet
              refine ⟨d.length, x.bytes, DA7, dcap7, rfl, rfl, HM7.out, by rw [List.length_append]; omega, by rw [List.drop_left, List.take_of_length_le (by omega)], by rw [List.length_append, HBL.out]; omega, HREC7.out⟩
          case rest =>
            obtain ⟨a, z, DA2, dcap2, rfl, rfl, hm7, ha1, ha2, hd2, hr7⟩ := hcut
            obtain ⟨W7, rfl⟩ : ∃ W : World, W = wc := ⟨_, rfl⟩
            have HM7 := Lib.hid hm7
            have HREC7 := Lib.hid hr7
            have HAA := Lib.hid (And.intro ha1 ha2)
            have ha3 : a < 20000 := by omega
            have htsl : (shorts ([0, n, 6 + 12 * n] ++ flds l' ats)).length ≤ 1000 := by
              rw [shorts_len, List.length_append, flds_len, List.length_zip, HATS.out]
              simp
              omega
            have em := cell_in (j := 1) hr7
            have em1 : W7.cell? ⟨wo.heap.size, 1, none⟩ = some (.bool mac) := by rw [em]; rfl
            clear hm7 hr7 ha1 ha2 em
            cases mac with
            | true =>
              have hS := Lib.hid (short_any T (T + 1) W7.heap.size 3 (shorts ([0, n, 6 + 12 * n] ++ flds l' ats)) [1, 0, 0] tv' (W7.alloc (.cells #[.int .i64 1, .int .i64 0, .int .i64 0] 3)) rfl (by omega) (by intro y hy; simp at hy; omega) (by omega) ((HM7.out.later ((Below.refl _ _).alloc (Nat.le_refl _) _)).tab) (ints_three _ _ _ _ _ _ _ _ rfl rfl rfl) (by simp) (by have := HM7.out.hT; omega) (fun e => by have := (HM7.out.tab.own.lt _ e).2; omega))
              clear hRo
              go_wp2_with fail
              refine hS.out.mono ?_
              rintro e w8 ⟨rfl, tv8, hw8⟩
              have HM8 := Lib.hid ((HM7.out.later ((Below.refl _ _).alloc (Nat.le_refl _) _)).wrote hw8)
              have hrec8 : w8.heap[wo.heap.size]? = some (.cells #[.int .i64 (xi : Nat), .bool true, .string tx] 35 (0, 0)) := by
                have hE7 : wo.heap.size < W7.heap.size := (Array.getElem?_eq_some_iff.1 HREC7.out).1
                have h7 := (((Below.refl W7.heap.size W7).alloc (Nat.le_refl _) (.cells #[.int .i64 1, .int .i64 0, .int .i64 0] 3)).block _ hE7).trans HREC7.out
                refine (hw8.kept.block _ (by rw [World.size_alloc]; omega) ?_).trans h7
                rintro (e | e)
                · have := HMEM.out.hT; omega
                · have := (HMEM.out.tab.own.lt _ e.symm).2; omega
              have e0 : w8.cell? ⟨wo.heap.size, 0, none⟩ = some (.int .i64 (xi : Nat)) := by rw [cell_in hrec8]; rfl
              have hS2 := Lib.hid (short_any T (T + 1) w8.heap.size 3 (shorts ([0, n, 6 + 12 * n] ++ flds l' ats) ++ shorts [1, 0, 0]) [xi, bl, a] tv8 (w8.alloc (.cells #[.int .i64 xi, .int .i64 bl, .int .i64 a] 3)) rfl (by omega) (by intro y hy; simp at hy; omega) (by have e6 : (shorts [1, 0, 0]).length = 6 := rfl; rw [List.length_append, e6]; omega) ((HM8.out.later ((Below.refl _ _).alloc (Nat.le_refl _) _)).tab) (ints_three _ _ _ _ _ _ _ _ rfl rfl rfl) (by simp) (by have := HM8.out.hT; omega) (fun e => by have := (HM8.out.tab.own.lt _ e).2; omega))
              clear hw8 hrec8
              go_wp2_with fail
              refine hS2.out.mono ?_
              rintro e w9 ⟨rfl, tv9, hw9⟩
              have HM9 := Lib.hid ((HM8.out.later ((Below.refl _ _).alloc (Nat.le_refl _) _)).wrote hw9)
              clear hw9 e0
              go_wp2
              go_roundg (n - (k + 1))
              case measure => have := HK.out; omega
              case rel =>
                have he : shorts ([0, n, 6 + 12 * n] ++ flds l' (ats ++ [a])) = (shorts ([0, n, 6 + 12 * n] ++ flds l' ats) ++ shorts [1, 0, 0]) ++ shorts [xi, bl, a] := by
                  have hf : x.fields a = [1, 0, 0] ++ [xi, bl, a] := by unfold Rec.fields; rw [← HMAC.out, ← HXI.out, ← HBL.out]; rfl
                  rw [flds_snoc HATS.out HX.out, hf, ← List.append_assoc, shorts_append, shorts_append [1, 0, 0], ← List.append_assoc]
                exact ⟨k + 1, ats ++ [a], d ++ z, tv9, DA2, dcap2, c2, by omega, rfl, by go_num, by rw [List.length_append], by rw [List.length_append, HATS.out]; rfl, HPL.out.next HATS.out HX.out HAA.out.1 HAA.out.2, by omega, by omega, by rw [he, ← List.length_append]; exact HM9.out⟩
            | false =>
              have hS := Lib.hid (short_any T (T + 1) W7.heap.size 3 (shorts ([0, n, 6 + 12 * n] ++ flds l' ats)) [3, 1, 1033] tv' (W7.alloc (.cells #[.int .i64 3, .int .i64 1, .int .i64 1033] 3)) rfl (by omega) (by intro y hy; simp at hy; omega) (by omega) ((HM7.out.later ((Below.refl _ _).alloc (Nat.le_refl _) _)).tab) (ints_three _ _ _ _ _ _ _ _ rfl rfl rfl) (by simp) (by have := HM7.out.hT; omega) (fun e => by have := (HM7.out.tab.own.lt _ e).2; omega))
              clear hRo
              go_wp2_with fail
              refine hS.out.mono ?_
              rintro e w8 ⟨rfl, tv8, hw8⟩
              have HM8 := Lib.hid ((HM7.out.later ((Below.refl _ _).alloc (Nat.le_refl _) _)).wrote hw8)
              have hrec8 : w8.heap[wo.heap.size]? = some (.cells #[.int .i64 (xi : Nat), .bool false, .string tx] 35 (0, 0)) := by
                have hE7 : wo.heap.size < W7.heap.size := (Array.getElem?_eq_some_iff.1 HREC7.out).1
                have h7 := (((Below.refl W7.heap.size W7).alloc (Nat.le_refl _) (.cells #[.int .i64 3, .int .i64 1, .int .i64 1033] 3)).block _ hE7).trans HREC7.out
                refine (hw8.kept.block _ (by rw [World.size_alloc]; omega) ?_).trans h7
                rintro (e | e)
                · have := HMEM.out.hT; omega
                · have := (HMEM.out.tab.own.lt _ e.symm).2; omega
              have e0 : w8.cell? ⟨wo.heap.size, 0, none⟩ = some (.int .i64 (xi : Nat)) := by rw [cell_in hrec8]; rfl
              have hS2 := Lib.hid (short_any T (T + 1) w8.heap.size 3 (shorts ([0, n, 6 + 12 * n] ++ flds l' ats) ++ shorts [3, 1, 1033]) [xi, bl, a] tv8 (w8.alloc (.cells #[.int .i64 xi, .int .i64 bl, .int .i64 a] 3)) rfl (by omega) (by intro y hy; simp at hy; omega) (by have e6 : (shorts [3, 1, 1033]).length = 6 := rfl; rw [List.length_append, e6]; omega) ((HM8.out.later ((Below.refl _ _).alloc (Nat.le_refl _) _)).tab) (ints_three _ _ _ _ _ _ _ _ rfl rfl rfl) (by simp) (by have := HM8.out.hT; omega) (fun e => by have := (HM8.out.tab.own.lt _ e).2; omega))
              clear hw8 hrec8
              go_wp2_with fail
              refine hS2.out.mono ?_
              rintro e w9 ⟨rfl, tv9, hw9⟩
              have HM9 := Lib.hid ((HM8.out.later ((Below.refl _ _).alloc (Nat.le_refl _) _)).wrote hw9)
              clear hw9 e0
              go_wp2
              go_roundg (n - (k + 1))
              case measure => have := HK.out; omega
              case rel =>
                have he : shorts ([0, n, 6 + 12 * n] ++ flds l' (ats ++ [a])) = (shorts ([0, n, 6 + 12 * n] ++ flds l' ats) ++ shorts [3, 1, 1033]) ++ shorts [xi, bl, a] := by
                  have hf : x.fields a = [3, 1, 1033] ++ [xi, bl, a] := by unfold Rec.fields; rw [← HMAC.out, ← HXI.out, ← HBL.out]; rfl
                  rw [flds_snoc HATS.out HX.out, hf, ← List.append_assoc, shorts_append, shorts_append [3, 1, 1033], ← List.append_assoc]
                exact ⟨k + 1, ats ++ [a], d ++ z, tv9, DA2, dcap2, c2, by omega, rfl, by go_num, by rw [List.length_append], by rw [List.length_append, HATS.out]; rfl, HPL.out.next HATS.out HX.out HAA.out.1 HAA.out.2, by omega, by omega, by rw [he, ← List.length_append]; exact HM9.out⟩
    · have hkn : k = n := by omega
      have hm := HMEM.out
      obtain ⟨TA, tcap, htv⟩ := own_slice hm.tab.own
      have htsl : (shorts ([0, n, 6 + 12 * n] ++ flds l' ats)).length ≤ 1000 := by
        rw [shorts_len, List.length_append, flds_len, List.length_zip, HATS.out]
        simp
        omega
      have htsp : 0 < (shorts ([0, n, 6 + 12 * n] ++ flds l' ats)).length := by
        rw [shorts_len, List.length_append]
        simp
        omega
      have hcell := hm.tab.cell
      have htown := hm.tab.own
      have hRT := hm.hRT
      have hTs := hm.hT
      have HK2 := Lib.hid hkn
      rw [htv] at hcell htown
      have hlow := hm.hR
      obtain ⟨ts, hts⟩ : ∃ ts, ts = shorts ([0, n, 6 + 12 * n] ++ flds l' ats) := ⟨_, rfl⟩
      rw [← hts] at hcell htown htsl htsp
      have HTS := Lib.hid hts
      clear hm htv hkn hts
      go_wp2_with (at_builtin; go_must (refine wpList_append_src rfl (.tmp 114) (.tmp 115) rfl (T + 1) (T + 1) _ _ ts d rfl rfl htown (own_src HMEM.out.data) ?_ ?_ ?_ ?_))
      · omega
      · omega
      · omega
      intro v8 w8 hown8 hg8 _
      obtain ⟨q, cp, cur, rfl, _⟩ := Row.own_form hown8 (by first | omega | (rw [List.length_append]; omega))
      have HO8 := Lib.hid hown8
      have hb8 : Below w.heap.size w w8 := HMEM.out.below.grown hg8 HMEM.out.below.size (fun q hq => by have := (htown.lt q hq).1; omega)
      have HB8 := Lib.hid hb8
      clear hown8 hg8 hb8 htown hcell
      go_wp2
      go_ret
      have h1 := own_mono HO8.out (base' := w.heap.size) (by omega)
      refine ⟨l', ats, d, q, cp, HS.out.perm, by rw [HATS.out, HK2.out], HPL.out, by rw [← HK2.out]; exact hdl, ?_, ?_, HB8.out⟩
      · rw [← HTS.out, List.length_append]
        rfl
      · rw [← HTS.out]
        rw [← List.length_append] at h1
        exact h1
end Go.Proofs.Ytdihfcmmnljchaa.Nm
