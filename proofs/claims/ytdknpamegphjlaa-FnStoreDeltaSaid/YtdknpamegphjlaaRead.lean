/- Bytes read, and an axis parsed, walked. -/
import Derived.Test.YtdknpamegphjlaaStore
namespace Go.Proofs.Ytdknpamegphjlaa.Sd
open Go Go.RowKit

def Byted (w : World) (e : Ending) (w' : World) (ax : Nat) (all : List (List Ax)) (l : List Dl) : Prop :=
  ∃ (ps : List (Dl × Nat)) (g cp : Nat) (bs : List Nat), bs = storeBytes ax all ps ∧ ps.length = l.length ∧ PsOk l ps ∧ e = .returned (.slice (some ⟨g, 0, none⟩) bs.length cp) ∧ w'.ownsRow w.heap.size 5 1 (.slice (some ⟨g, 0, none⟩) bs.length cp) bs.length (byteCells bs) ∧ Below w.heap.size w w'

set_option maxRecDepth 100000 in
theorem bytes_any (ax m : Nat) (va vl : Value) (all : List (List Ax)) (l : List Dl) (at_ : List Int) (A : Option Addr) (n cap : Nat) (w : World) (hf : Fine all l at_ ax m) (hva : RegsR None' w va all) (hvl : DlsR None' w vl l) (hn : n ≤ 2147483647) (hin : InU8 w A n) :
    Calls Try.prog 9 #[va, vl, .slice A n cap] w fun e w' => Byted w e w' ax all l := by
  have hb : Below w.heap.size w (w.alloc (.cells #[.slice A n cap, .int .i64 0, .bool false] 72)) := (Below.refl _ _).alloc (Nat.le_refl _) _
  have hc := heap_alloc_new w (.cells #[.slice A n cap, .int .i64 0, .bool false] 72)
  have hI := Lib.hid (item_any w.heap.size ax m va vl all l at_ A n cap (w.alloc (.cells #[.slice A n cap, .int .i64 0, .bool false] 72)) hf
    (good_regs.kept (S := fun q => w.heap.size ≤ q) (good_regs.sub hva (fun q hq h => by omega)) (kept_of_below hb) (fun _ _ h => h.elim))
    (good_dls.kept (S := fun q => w.heap.size ≤ q) (good_dls.sub hvl (fun q hq h => by omega)) (kept_of_below hb) (fun _ _ h => h.elim))
    ⟨by rw [cell_in hc]; rfl, by rw [cell_in hc]; rfl, frozen_in hc⟩ (by simp) hn (fun W k hp => by
      obtain ⟨b, off, e, h⟩ := old_u8 hin hb hp
      refine ⟨b, off, e, fun j hj => ?_⟩
      obtain ⟨x, hx, hcell⟩ := h j hj
      obtain ⟨b2, off2, e2, h2⟩ := hin hp
      rw [e] at e2
      injection e2 with e2
      injection e2 with e2 e3
      obtain ⟨y, _, hy⟩ := h2 j hj
      have hlt := World.block_lt_of_cell? w _ hy
      exact ⟨x, hx, k.cell hcell (fun e4 => by
        have : b2 < w.heap.size := hlt
        omega)⟩))
  have HB := Lib.hid hb
  clear hf hva hvl hin hb hc
  go_enter Try.func9, Try.ntmps9
  go_wp2_with fail
  refine hI.out.mono ?_
  rintro e w2 ⟨ps, g, cp, bs, hbs, hpl, hps, rfl, hown, hk⟩
  have hres : Byted w (.returned (.slice (some ⟨g, 0, none⟩) bs.length cp)) w2 ax all l :=
    ⟨ps, g, cp, bs, hbs, hpl, hps, rfl, own_mono hown (by simp), hk.below HB.out (by simp) (fun q hq e => by omega)⟩
  have HR := Lib.hid hres
  obtain ⟨bl, hbl⟩ : ∃ bl, bl = bs.length := ⟨_, rfl⟩
  rw [← hbl] at HR ⊢
  clear hres hbs hpl hps hown hk hbl
  go_wp2
  go_ret
  exact HR.out

/-- The bytes at a place. -/
def Reads (w : World) (g off : Nat) (bs : List Nat) : Prop := ∀ j x, bs[j]? = some x → w.cell? ⟨g, off + j, none⟩ = some (.int .u8 (x : Nat))
theorem Reads.below {w w' : World} {g off : Nat} {bs : List Nat} (h : Reads w g off bs) (k : Below w.heap.size w w') : Reads w' g off bs := fun j x hx => below_cell k (h j x hx)
theorem Reads.left {w : World} {g off : Nat} {a b : List Nat} (h : Reads w g off (a ++ b)) : Reads w g off a := fun j x hx => h j x (by rw [List.getElem?_append_left (List.getElem?_eq_some_iff.1 hx).1]; exact hx)
theorem Reads.right {w : World} {g off : Nat} {a b : List Nat} (h : Reads w g off (a ++ b)) : Reads w g (off + a.length) b := fun j x hx => by
  have := h (a.length + j) x (by rw [List.getElem?_append_right (by omega), Nat.add_sub_cancel_left]; exact hx)
  rwa [← Nat.add_assoc] at this
theorem own_reads {w : World} {base g n cap : Nat} {bs : List Nat} (h : w.ownsRow base 5 1 (.slice (some ⟨g, 0, none⟩) n cap) n (byteCells bs)) : Reads w g 0 bs := by
  intro j x hx
  have hl := h.1
  have hj := (List.getElem?_eq_some_iff.1 hx).1
  simp [byteCells] at hl
  rw [Nat.zero_add, h.cellAt j (by omega)]
  simp [byteCells, hx]
theorem two_at (l : List Int) (j : Nat) (x : Int) (hx : l[j]? = some x) : (shorts l)[2 * j]? = some (x / 256 % 256).toNat ∧ (shorts l)[2 * j + 1]? = some (x % 256).toNat := by
  induction l generalizing j with
  | nil => simp at hx
  | cons y l ih =>
    have e : shorts (y :: l) = (y / 256 % 256).toNat :: (y % 256).toNat :: shorts l := by simp [shorts, two]
    rw [e]
    cases j with
    | zero => simp at hx; subst hx; exact ⟨rfl, rfl⟩
    | succ j =>
      have := ih j (by simpa using hx)
      rw [show 2 * (j + 1) = 2 * j + 1 + 1 by omega]
      simpa using this
theorem Reads.two {w : World} {g off : Nat} {vs : List Int} (h : Reads w g off (shorts vs)) {j : Nat} {x : Int} (hx : vs[j]? = some x) : w.cell? ⟨g, off + 2 * j, none⟩ = some (.int .u8 ((x / 256 % 256).toNat : Nat)) ∧ w.cell? ⟨g, off + 2 * j + 1, none⟩ = some (.int .u8 ((x % 256).toNat : Nat)) := by
  obtain ⟨h1, h2⟩ := two_at vs j x hx
  exact ⟨h _ _ h1, by have := h _ _ h2; rwa [← Nat.add_assoc] at this⟩

theorem ofInt16 (a : Nat) (ha : a < 65536) : (BitVec.ofInt 16 (a : Int)).toNat = a := by
  rw [BitVec.toNat_ofInt]; omega
theorem or_bytes (a b : Nat) (ha : a < 256) (hb : b < 256) : bits .or .u16 (b : Int) ((a : Int) * 256) = ((a * 256 + b : Nat) : Int) := by
  have e : ((a : Int) * 256) = ((a * 256 : Nat) : Int) := by omega
  rw [e]
  show IntKind.u16.wrap ((BitVec.ofInt 16 (b : Int) ||| BitVec.ofInt 16 ((a * 256 : Nat) : Int)).toNat : Int) = _
  rw [BitVec.toNat_or, ofInt16 b (by omega), ofInt16 _ (by omega)]
  have h : b ||| a * 256 = a * 256 + b := by
    have := Nat.two_pow_add_eq_or_of_lt (i := 8) (b := b) (by omega) a
    rw [Nat.or_comm, show a * 256 = 2 ^ 8 * a by omega, ← this]
  rw [h]
  simp [IntKind.wrap, IntKind.bits, IntKind.signed]
  omega

set_option maxHeartbeats 1000000 in
theorem half_any (g off n cap a b : Nat) (w : World) (hn : 2 ≤ n) (ha : a < 256) (hb : b < 256) (h0 : w.cell? ⟨g, off, none⟩ = some (.int .u8 (a : Nat))) (h1 : w.cell? ⟨g, off + 1, none⟩ = some (.int .u8 (b : Nat))) :
    Calls Try.prog 19 #[.agg #[], .slice (some ⟨g, off, none⟩) n cap] w fun e w' => e = .returned (.int .u16 (a * 256 + b : Nat)) ∧ Below w.heap.size w w' := by
  have hg : g < w.heap.size := World.block_lt_of_cell? w _ h0
  have n1 : (1 : Int) < n := by omega
  have n0 : (0 : Int) < n := by omega
  go_enter Try.func19, Try.ntmps19
  go_wp2
  go_quiet (fail)
  go_wp2
  go_ret
  refine ⟨?_, below_drewN ((Below.refl _ _).alloc (Nat.le_refl _) _) nq⟩
  show Ending.returned (.int .u16 (bits .or .u16 (b : Int) ((a : Int) * 256))) = _
  rw [or_bytes a b ha hb]
theorem ofInt32 (a : Nat) (ha : a < 4294967296) : (BitVec.ofInt 32 (a : Int)).toNat = a := by
  rw [BitVec.ofInt_natCast, BitVec.toNat_ofNat]; exact Nat.mod_eq_of_lt (by omega)
theorem or32 (x y k : Nat) (hx : x < 2 ^ k) (hy : y * 2 ^ k < 4294967296) (hx2 : x < 4294967296) : bits .or .u32 (x : Int) ((y : Int) * ((2 ^ k : Nat) : Int)) = ((y * 2 ^ k + x : Nat) : Int) := by
  have e : ((y : Int) * ((2 ^ k : Nat) : Int)) = ((y * 2 ^ k : Nat) : Int) := by simp
  rw [e]
  show IntKind.u32.wrap ((BitVec.ofInt 32 ((x : Nat) : Int) ||| BitVec.ofInt 32 ((y * 2 ^ k : Nat) : Int)).toNat : Int) = _
  rw [BitVec.toNat_or, ofInt32 _ hx2, ofInt32 _ hy]
  have h : x ||| y * 2 ^ k = y * 2 ^ k + x := by
    have := Nat.two_pow_add_eq_or_of_lt hx y
    rw [Nat.or_comm, Nat.mul_comm, ← this]
  have hlt : y * 2 ^ k + x < 4294967296 := by
    rw [← h]
    exact Nat.or_lt_two_pow (n := 32) hx2 hy
  rw [h]
  generalize y * 2 ^ k + x = z at *
  simp [IntKind.wrap, IntKind.bits, IntKind.signed]
  omega

set_option maxHeartbeats 1000000 in
theorem word_any (g off n cap a b c d : Nat) (w : World) (hn : 4 ≤ n) (ha : a < 256) (hb : b < 256) (hc : c < 256) (hd : d < 256) (h0 : w.cell? ⟨g, off, none⟩ = some (.int .u8 (a : Nat))) (h1 : w.cell? ⟨g, off + 1, none⟩ = some (.int .u8 (b : Nat))) (h2 : w.cell? ⟨g, off + 2, none⟩ = some (.int .u8 (c : Nat))) (h3 : w.cell? ⟨g, off + 3, none⟩ = some (.int .u8 (d : Nat))) :
    Calls Try.prog 20 #[.agg #[], .slice (some ⟨g, off, none⟩) n cap] w fun e w' => e = .returned (.int .u32 (((a * 256 + b) * 256 + c) * 256 + d : Nat)) ∧ Below w.heap.size w w' := by
  have hg : g < w.heap.size := World.block_lt_of_cell? w _ h0
  have n3 : (3 : Int) < n := by omega
  have n2 : (2 : Int) < n := by omega
  have n1 : (1 : Int) < n := by omega
  have n0 : (0 : Int) < n := by omega
  go_enter Try.func20, Try.ntmps20
  go_wp2
  go_quiet (fail)
  go_wp2
  go_ret
  refine ⟨?_, below_drewN ((Below.refl _ _).alloc (Nat.le_refl _) _) nq⟩
  show Ending.returned (.int .u32 (bits .or .u32 (bits .or .u32 (bits .or .u32 (d : Int) ((c : Int) * 256)) ((b : Int) * 65536)) ((a : Int) * 16777216))) = _
  have e1 : bits .or .u32 (d : Int) ((c : Int) * 256) = ((c * 256 + d : Nat) : Int) := or32 d c 8 (by omega) (by omega) (by omega)
  have e2 : bits .or .u32 ((c * 256 + d : Nat) : Int) ((b : Int) * 65536) = ((b * 65536 + (c * 256 + d) : Nat) : Int) := or32 (c * 256 + d) b 16 (by omega) (by omega) (by omega)
  have e3 : bits .or .u32 ((b * 65536 + (c * 256 + d) : Nat) : Int) ((a : Int) * 16777216) = ((a * 16777216 + (b * 65536 + (c * 256 + d)) : Nat) : Int) := or32 (b * 65536 + (c * 256 + d)) a 24 (by omega) (by omega) (by omega)
  have e4 : a * 16777216 + (b * 65536 + (c * 256 + d)) = ((a * 256 + b) * 256 + c) * 256 + d := by omega
  rw [e1, e2, e3, e4]

/-- The first i values written over a record's cells. -/
def over (cur : List Value) (o : Nat) (v : Nat → Value) : Nat → List Value
  | 0 => cur
  | i + 1 => (over cur o v i).set (o + i) (v i)
theorem over_len (cur : List Value) (o : Nat) (v : Nat → Value) : ∀ i, (over cur o v i).length = cur.length
  | 0 => rfl
  | i + 1 => by unfold over; rw [List.length_set, over_len cur o v i]
theorem over_at (cur : List Value) (o : Nat) (v : Nat → Value) (i : Nat) (hi : o + i ≤ cur.length) (j : Nat) : (over cur o v i)[j]? = if o ≤ j ∧ j < o + i then some (v (j - o)) else cur[j]? := by
  induction i with
  | zero => rw [if_neg (by omega)]; rfl
  | succ i ih =>
    unfold over
    by_cases e : j = o + i
    · subst e
      rw [List.getElem?_set_self (by rw [over_len]; omega), if_pos (by omega), Nat.add_sub_cancel_left]
    · rw [List.getElem?_set_ne (by omega), ih (by omega)]
      by_cases h : o ≤ j ∧ j < o + i
      · rw [if_pos h, if_pos (by omega)]
      · rw [if_neg h, if_neg (by omega)]

structure Parsing (G o : Nat) (cur : List Value) (v : Nat → Value) (i : Nat) (w W : World) : Prop where
  row : W.heap[G]? = some (.cells (over cur o v i).toArray 108 (0, 0))
  kept : Kept (fun k => k = G) w W

theorem Parsing.cell {G o : Nat} {cur : List Value} {v : Nat → Value} {i : Nat} {w W : World} (h : Parsing G o cur v i w W) (ho : o + 3 ≤ cur.length) (hi : i < 3) : (∃ u, W.cell? ⟨G, o + i, none⟩ = some u) ∧ W.frozen? ⟨G, o + i, none⟩ = false := by
  refine ⟨?_, frozen_in h.row⟩
  have hl := over_len cur o v i
  refine ⟨(over cur o v i)[o + i]'(by omega), ?_⟩
  rw [cell_in h.row]
  simp
theorem Parsing.next {G o p : Nat} {cur : List Value} {v : Nat → Value} {i : Nat} {w W W1 : World} {x : Value} (h : Parsing G o cur v i w W) (hG : G < w.heap.size) (hb : Below W.drew.heap.size W.drew W1) (hx : x = v i) (hp : p = o + i) : Parsing G o cur v (i + 1) w (W1.setCell ⟨G, p, none⟩ x) := by
  subst hx hp
  have hs := h.kept.size
  have hr : W1.heap[G]? = some (.cells (over cur o v i).toArray 108 (0, 0)) := (hb.block G (by show G < W.heap.size; omega)).trans h.row
  refine ⟨?_, ?_⟩
  · have := set_row (j := o + i) (x := v i) hr
    rw [this]
    simp [over]
  · have k1 : Kept (fun k => k = G) W (W1.setCell ⟨G, o + i, none⟩ (v i)) := by
      refine ⟨hb.os, hb.tape, hb.output, by rw [World.size_setCell]; exact hb.size, fun q hq hn => ?_⟩
      rw [Below.heap_setCell _ _ _ _ hn]
      exact hb.block q hq
    exact h.kept.trans k1 (fun q _ e => e)
theorem Parsing.byte {G o g a x : Nat} {cur : List Value} {v : Nat → Value} {i : Nat} {w W : World} (h : Parsing G o cur v i w W) (hGg : G ≠ g) (hc : w.cell? ⟨g, a, none⟩ = some (.int .u8 (x : Nat))) : W.cell? ⟨g, a, none⟩ = some (.int .u8 (x : Nat)) := by
  rw [← hc]
  exact World.cell?_of_block (w := w) (h.kept.block g (World.block_lt_of_cell? w _ hc) (fun e => hGg e.symm))

/-- An axis's cells as parsed. -/
def axVal (t : Ax) (i : Nat) : Value := if i = 0 then .int .i16 t.a else if i = 1 then .int .i16 t.b else .int .i16 t.c

theorem i16_back (v : Int) (h0 : -32768 ≤ v) (h1 : v ≤ 32767) : IntKind.i16.wrap (((v / 256 % 256).toNat * 256 + (v % 256).toNat : Nat) : Int) = v := by
  simp [IntKind.wrap, IntKind.bits, IntKind.signed]
  omega

set_option maxRecDepth 100000 in
set_option maxHeartbeats 4000000 in
theorem must_any (G o g off n cap : Nat) (t : Ax) (cur : List Value) (w : World) (hn : 6 ≤ n) (hcm : n ≤ cap) (_hcap : cap ≤ 9223372036854775807) (hG : G < w.heap.size) (hGg : G ≠ g) (ht : t.Ok) (h : ∀ j x, (shorts [t.a, t.b, t.c])[j]? = some x → w.cell? ⟨g, off + j, none⟩ = some (.int .u8 (x : Nat)))
    (ho : o + 3 ≤ cur.length) (hrow : w.heap[G]? = some (.cells cur.toArray 108 (0, 0))) :
    Calls Try.prog 31 #[.pointer (some ⟨G, o, none⟩), .slice (some ⟨g, off, none⟩) n cap] w fun e w' => e = .returned (.tuple #[]) ∧ Parsing G o cur (axVal t) 3 w w' := by
  have HP0 : Hid (Parsing G o cur (axVal t) 0 w w) := ⟨hrow, Kept.refl _ _⟩
  have H := Lib.hid h
  have c5 := h 5 (t.c % 256).toNat rfl
  have h1 := ht.lo
  have h2 := ht.ab
  have h3 := ht.bc
  have h4 := ht.hi
  have n5 : (5 : Int) < n := by omega
  have q0 : (0 : Int) ≤ n := by omega
  have q2 : (2 : Int) ≤ n := by omega
  have q4 : (4 : Int) ≤ n := by omega
  have z2 : ¬ cap = 2 := by omega
  have z4 : ¬ cap = 4 := by omega
  have HBA := Lib.hid (i16_back t.a (by omega) (by omega))
  have HBB' := Lib.hid (i16_back t.b (by omega) (by omega))
  have HB := Lib.hid (i16_back t.c (by omega) (by omega))
  clear h hrow ht
  go_enter Try.func31, Try.ntmps31
  go_upto_region 1 with fail
  go_cut [] (fun W => Parsing G o cur (axVal t) 1 w W)
  case first =>
    obtain ⟨⟨u, hu⟩, hf⟩ := HP0.out.cell ho (i := 0) (by omega)
    have k0 : w.cell? ⟨g, off, none⟩ = some (.int .u8 (((t.a : Int) / 256 % 256).toNat : Nat)) := HP0.out.byte hGg (H.out 0 _ rfl)
    have k1 : w.cell? ⟨g, off + 1, none⟩ = some (.int .u8 (((t.a : Int) % 256).toNat : Nat)) := HP0.out.byte hGg (H.out 1 _ rfl)
    have hC := Lib.hid (half_any g (off) (n) (cap) _ _ w.drew (by omega) (by omega) (by omega) k0 k1)
    have hgw : G < w.heap.size := Nat.lt_of_lt_of_le hG HP0.out.kept.size
    obtain ⟨p, hp⟩ : ∃ p, p = (t.a / 256 % 256).toNat * 256 + (t.a % 256).toNat := ⟨_, rfl⟩
    have HBB := HBA.out
    rw [← hp] at hC HBB
    have HBQ := Lib.hid HBB
    clear k0 k1 hp c5 HBB
    go_region_with (go_at_call 19; refine hC.out.mono ?_; rintro e w1 ⟨rfl, hb1⟩; have z0 := (hb1.cell (p := ⟨G, o, none⟩) hgw).trans hu; have z1 := (hb1.frozen (p := ⟨G, o, none⟩) hgw).trans hf)
    all_goals
      go_wp2_with fail
      go_meet
    all_goals exact HP0.out.next hG hb1 (by show Value.int .i16 _ = Value.int .i16 t.a; rw [← HBQ.out]) (by omega)
  case rest =>
  have HP1 := Lib.hid hcut
  obtain ⟨W1, rfl⟩ : ∃ W : World, W = wc := ⟨_, rfl⟩
  clear hcut
  go_upto_region 2 with fail
  go_cut [] (fun W => Parsing G o cur (axVal t) 2 w W)
  case first =>
    obtain ⟨⟨u, hu⟩, hf⟩ := HP1.out.cell ho (i := 1) (by omega)
    have k0 : W1.cell? ⟨g, off + 2, none⟩ = some (.int .u8 (((t.b : Int) / 256 % 256).toNat : Nat)) := HP1.out.byte hGg (H.out 2 _ rfl)
    have k1 : W1.cell? ⟨g, off + 2 + 1, none⟩ = some (.int .u8 (((t.b : Int) % 256).toNat : Nat)) := HP1.out.byte hGg (H.out 3 _ rfl)
    have hC := Lib.hid (half_any g (off + 2) (n - 2) (cap - 2) _ _ W1.drew (by omega) (by omega) (by omega) k0 k1)
    have hgw : G < W1.heap.size := Nat.lt_of_lt_of_le hG HP1.out.kept.size
    obtain ⟨p, hp⟩ : ∃ p, p = (t.b / 256 % 256).toNat * 256 + (t.b % 256).toNat := ⟨_, rfl⟩
    have HBB := HBB'.out
    rw [← hp] at hC HBB
    have HBQ := Lib.hid HBB
    clear k0 k1 hp c5 HBB
    go_region_with (go_at_call 19; refine hC.out.mono ?_; rintro e w1 ⟨rfl, hb1⟩; have z0 := (hb1.cell (p := ⟨G, o + 1, none⟩) hgw).trans hu; have z1 := (hb1.frozen (p := ⟨G, o + 1, none⟩) hgw).trans hf)
    all_goals
      go_wp2_with fail
      go_meet
    all_goals exact HP1.out.next hG hb1 (by show Value.int .i16 _ = Value.int .i16 t.b; rw [← HBQ.out]) (by omega)
  case rest =>
  have HP2 := Lib.hid hcut
  obtain ⟨W2, rfl⟩ : ∃ W : World, W = wc := ⟨_, rfl⟩
  clear hcut
  go_upto_region 3 with fail
  obtain ⟨⟨u, hu⟩, hf⟩ := HP2.out.cell ho (i := 2) (by omega)
  have k0 : W2.cell? ⟨g, off + 4, none⟩ = some (.int .u8 ((t.c / 256 % 256).toNat : Nat)) := HP2.out.byte hGg (H.out 4 _ rfl)
  have k1 : W2.cell? ⟨g, off + 4 + 1, none⟩ = some (.int .u8 ((t.c % 256).toNat : Nat)) := HP2.out.byte hGg (H.out 5 _ rfl)
  have hC := Lib.hid (half_any g (off + 4) (n - 4) (cap - 4) _ _ W2.drew (by omega) (by omega) (by omega) k0 k1)
  have hgw : G < W2.heap.size := Nat.lt_of_lt_of_le hG HP2.out.kept.size
  obtain ⟨p, hp⟩ : ∃ p, p = (t.c / 256 % 256).toNat * 256 + (t.c % 256).toNat := ⟨_, rfl⟩
  have HBB := HB.out
  rw [← hp] at hC HBB
  have HBQ := Lib.hid HBB
  clear k0 k1 hp c5 HBB
  go_region_with (go_at_call 19; refine hC.out.mono ?_; rintro e w1 ⟨rfl, hb1⟩; have z0 := (hb1.cell (p := ⟨G, o + 2, none⟩) hgw).trans hu; have z1 := (hb1.frozen (p := ⟨G, o + 2, none⟩) hgw).trans hf)
  all_goals
    go_wp2_with fail
    go_end0
    exact ⟨rfl, HP2.out.next hG hb1 (by show Value.int .i16 _ = Value.int .i16 t.c; rw [← HBQ.out]) (by omega)⟩
end Go.Proofs.Ytdknpamegphjlaa.Sd
