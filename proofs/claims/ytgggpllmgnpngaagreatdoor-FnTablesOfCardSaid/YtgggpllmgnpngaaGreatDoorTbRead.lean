/- A reader of bytes, walked. -/
import Derived.Test.YtgggpllmgnpngaaGreatDoorTbText
import Derived.Lib.EndianBits
import Derived.StillTailTactics
import Derived.Laws.CopyOwn
namespace Go.Proofs.YtgggpllmgnpngaaGreatDoor.Tb
open Go Go.RowKit

/-- The number that four bytes spell. -/
def be4 (a b c d : Nat) : Nat := a * 16777216 + b * 65536 + c * 256 + d

theorem be4_bits {a b c d : Nat} (ha : a < 256) (hb : b < 256) (hc : c < 256) (hd : d < 256) :
    bits .or .u32 (bits .or .u32 (bits .or .u32 (d : Int) ((c : Int) * 256)) ((b : Int) * 65536)) ((a : Int) * 16777216) = (be4 a b c d : Nat) := by
  rw [u32_or8 (d : Int) ((c : Int) * 256) (by omega) (by omega) (by omega) (by omega) (by omega)]
  rw [u32_or16 ((d : Int) + (c : Int) * 256) ((b : Int) * 65536) (by omega) (by omega) (by omega) (by omega) (by omega)]
  rw [u32_or24 ((d : Int) + (c : Int) * 256 + (b : Int) * 65536) ((a : Int) * 16777216) (by omega) (by omega) (by omega) (by omega) (by omega)]
  unfold be4
  omega
theorem ret_u32 {x y : Int} (h : x = y) : Ending.returned (.int .u32 x) = .returned (.int .u32 y) := by rw [h]
theorem ret_u16 {x y : Int} (h : x = y) : Ending.returned (.int .u16 x) = .returned (.int .u16 y) := by rw [h]

set_option maxHeartbeats 1000000 in
theorem newtag_any (a b c d : Nat) (w : World) (ha : a < 256) (hb : b < 256) (hc : c < 256) (hd : d < 256) :
    Calls Tryz.prog 50 #[.int .u8 a, .int .u8 b, .int .u8 c, .int .u8 d] w fun e w' => e = .returned (.int .u32 (be4 a b c d : Nat)) ∧ w = w' := by
  go_enter Tryz.func50, Tryz.ntmps50
  go_wp2
  go_ret
  exact ⟨ret_u32 (be4_bits ha hb hc hd), rfl⟩

set_option maxHeartbeats 1000000 in
theorem u32_any (B o cap : Nat) (a b c d : Nat) (w : World) (ha : a < 256) (hb : b < 256) (hc : c < 256) (hd : d < 256)
    (c0 : w.cell? ⟨B, o, none⟩ = some (.int .u8 a)) (c1 : w.cell? ⟨B, o + 1, none⟩ = some (.int .u8 b)) (c2 : w.cell? ⟨B, o + 2, none⟩ = some (.int .u8 c)) (c3 : w.cell? ⟨B, o + 3, none⟩ = some (.int .u8 d)) :
    Calls Tryz.prog 134 #[.agg #[], .slice (some ⟨B, o, none⟩) 4 cap] w fun e w' => e = .returned (.int .u32 (be4 a b c d : Nat)) ∧ Below w.heap.size w w' := by
  have hB := World.block_lt_of_cell? w _ c0
  have hB2 : B < w.heap.size := hB
  clear hB
  go_enter Tryz.func134, Tryz.ntmps134
  go_wp2
  go_quiet (fail)
  go_wp2
  go_ret
  exact ⟨ret_u32 (be4_bits ha hb hc hd), below_drewN ((Below.refl _ _).alloc (Nat.le_refl _) _) nq⟩

set_option maxHeartbeats 1000000 in
theorem u16_any (B o cap : Nat) (a b : Nat) (w : World) (ha : a < 256) (hb : b < 256)
    (c0 : w.cell? ⟨B, o, none⟩ = some (.int .u8 a)) (c1 : w.cell? ⟨B, o + 1, none⟩ = some (.int .u8 b)) :
    Calls Tryz.prog 133 #[.agg #[], .slice (some ⟨B, o, none⟩) 2 cap] w fun e w' => e = .returned (.int .u16 (a * 256 + b : Nat)) ∧ Below w.heap.size w w' := by
  have hB := World.block_lt_of_cell? w _ c0
  have hB2 : B < w.heap.size := hB
  clear hB
  go_enter Tryz.func133, Tryz.ntmps133
  go_wp2
  go_quiet (fail)
  go_wp2
  go_ret
  refine ⟨ret_u16 ?_, below_drewN ((Below.refl _ _).alloc (Nat.le_refl _) _) nq⟩
  rw [u16_or8 _ _ (by omega) (by omega) (by omega) (by omega) (by omega)]
  omega
end Go.Proofs.YtgggpllmgnpngaaGreatDoor.Tb

namespace Go.Proofs.YtgggpllmgnpngaaGreatDoor.Tb
open Go Go.RowKit

/-- The reader: its bytes, where it stands. -/
structure Rd (R B N cap i : Nat) (bs : List Nat) (w : World) : Prop where
  src : w.cell? ⟨R, 0, none⟩ = some (.slice (some ⟨B, 0, none⟩) N cap)
  pos : w.cell? ⟨R, 1, none⟩ = some (.int .i64 i)
  prev : ∃ u, w.cell? ⟨R, 2, none⟩ = some u
  free1 : w.frozen? ⟨R, 1, none⟩ = false
  free2 : w.frozen? ⟨R, 2, none⟩ = false
  ne : B ≠ R
  len : bs.length = N
  byte : ∀ b ∈ bs, b < 256
  cell : ∀ j b, bs[j]? = some b → w.cell? ⟨B, j, none⟩ = some (.int .u8 (b : Nat))
  room : N ≤ cap ∧ cap ≤ 9223372036854775807 ∧ N ≤ 100000
  low : R < w.heap.size ∧ B < w.heap.size

theorem Rd.kept {R B N cap i : Nat} {bs : List Nat} {S : Nat → Prop} {w w' : World} (h : Rd R B N cap i bs w) (k : Kept S w w') (hR : ¬ S R) (hB : ¬ S B) : Rd R B N cap i bs w' := by
  have hb := k.block R h.low.1 hR
  have hc := k.block B h.low.2 hB
  obtain ⟨u, hu⟩ := h.prev
  exact ⟨(World.cell?_of_block hb).trans h.src, (World.cell?_of_block hb).trans h.pos, ⟨u, (World.cell?_of_block hb).trans hu⟩, (World.frozen?_of_block hb).trans h.free1, (World.frozen?_of_block hb).trans h.free2, h.ne, h.len, h.byte, fun j b hj => (World.cell?_of_block hc).trans (h.cell j b hj), h.room, Nat.lt_of_lt_of_le h.low.1 k.size, Nat.lt_of_lt_of_le h.low.2 k.size⟩
theorem Rd.later {R B N cap i : Nat} {bs : List Nat} {w w' : World} (h : Rd R B N cap i bs w) (k : Below w.heap.size w w') : Rd R B N cap i bs w' :=
  h.kept (kept_of_below k) (fun h => h) (fun h => h)
/-- The reader is moved. -/
theorem Rd.moved {R B N cap i : Nat} {bs : List Nat} {w : World} (h : Rd R B N cap i bs w) (v : Value) (m : Nat) : Rd R B N cap m bs ((w.setCell ⟨R, 2, none⟩ v).setCell ⟨R, 1, none⟩ (.int .i64 m)) := by
  obtain ⟨u, hu⟩ := h.prev
  have h1 : (w.setCell ⟨R, 2, none⟩ v).cell? ⟨R, 1, none⟩ = some (.int .i64 i) := by rw [World.cell?_setCell_other _ _ _ _ (by simp)]; exact h.pos
  refine ⟨?_, World.cell?_setCell_same _ _ _ h1, ⟨v, ?_⟩, by rw [World.frozen?_setCell, World.frozen?_setCell]; exact h.free1, by rw [World.frozen?_setCell, World.frozen?_setCell]; exact h.free2, h.ne, h.len, h.byte, fun j b hj => ?_, h.room, by simpa using h.low⟩
  · rw [World.cell?_setCell_other _ _ _ _ (by simp), World.cell?_setCell_other _ _ _ _ (by simp)]; exact h.src
  · rw [World.cell?_setCell_other _ _ _ _ (by simp)]; exact World.cell?_setCell_same _ _ _ hu
  · rw [World.cell?_setCell_other _ _ _ _ (by simp [Ne.symm h.ne]), World.cell?_setCell_other _ _ _ _ (by simp [Ne.symm h.ne])]; exact h.cell j b hj

theorem Rd.prevSet {R B N cap i : Nat} {bs : List Nat} {w : World} (h : Rd R B N cap i bs w) (v : Value) : Rd R B N cap i bs (w.setCell ⟨R, 2, none⟩ v) := by
  obtain ⟨u, hu⟩ := h.prev
  refine ⟨?_, ?_, ⟨v, World.cell?_setCell_same _ _ _ hu⟩, by rw [World.frozen?_setCell]; exact h.free1, by rw [World.frozen?_setCell]; exact h.free2, h.ne, h.len, h.byte, fun j b hj => ?_, h.room, by simpa using h.low⟩
  · rw [World.cell?_setCell_other _ _ _ _ (by simp)]; exact h.src
  · rw [World.cell?_setCell_other _ _ _ _ (by simp)]; exact h.pos
  · rw [World.cell?_setCell_other _ _ _ _ (by simp [Ne.symm h.ne])]; exact h.cell j b hj
theorem Rd.posSet {R B N cap i : Nat} {bs : List Nat} {w : World} (h : Rd R B N cap i bs w) (m : Nat) : Rd R B N cap m bs (w.setCell ⟨R, 1, none⟩ (.int .i64 m)) := by
  obtain ⟨u, hu⟩ := h.prev
  refine ⟨?_, World.cell?_setCell_same _ _ _ h.pos, ⟨u, ?_⟩, by rw [World.frozen?_setCell]; exact h.free1, by rw [World.frozen?_setCell]; exact h.free2, h.ne, h.len, h.byte, fun j b hj => ?_, h.room, by simpa using h.low⟩
  · rw [World.cell?_setCell_other _ _ _ _ (by simp)]; exact h.src
  · rw [World.cell?_setCell_other _ _ _ _ (by simp)]; exact hu
  · rw [World.cell?_setCell_other _ _ _ _ (by simp [Ne.symm h.ne])]; exact h.cell j b hj

set_option maxHeartbeats 1000000 in
theorem seek_any (R B N cap i : Nat) (bs : List Nat) (w : World) (h : Rd R B N cap i bs w) :
    Calls Tryz.prog 162 #[.pointer (some ⟨R, 0, none⟩), .int .i64 0, .int .i64 0] w fun e w' => e = .returned (.tuple #[.int .i64 0, .nilIface]) ∧ Rd R B N cap 0 bs w' ∧ Kept (fun q => q = R) w w' := by
  obtain ⟨u, hu⟩ := h.prev
  have hp := h.pos
  have f1 := h.free1
  have f2 := h.free2
  have HR := Lib.hid (And.intro (h.moved (.int .i64 (-1)) 0) (show Kept (fun q => q = R) w ((w.setCell ⟨R, 2, none⟩ (.int .i64 (-1))).setCell ⟨R, 1, none⟩ (.int .i64 (0 : Nat))) from (kept_set w R 2 _).trans (kept_set _ R 1 _) (fun _ _ h => h)))
  clear h
  go_enter Tryz.func162, Tryz.ntmps162
  go_wp2
  go_ret2
  exact ⟨rfl, HR.out.1, HR.out.2⟩

theorem byteCells_one' (b : List Nat) : ∀ u ∈ byteCells b, u.oneCell' = true := by
  intro u hu
  unfold byteCells at hu
  obtain ⟨x, _, rfl⟩ := List.mem_map.1 hu
  rfl
/-- All of a row copied over. -/
theorem wpList_take {w : World} {ops : Array Oper} {rest : List Oper} {o : Oper} {a : Act} {Q : Exit → Act → World → Prop} (hgd : o.guard = none) (d s : Operand)
    (ho : o.op = .call { callee := .builtin .copy, args := #[d, s], argTypes := #[24, 24] }) (g k cap : Nat) (ad : Addr) (sLen sCap : Nat) (hd : a.eval d = .slice (some ⟨g, 0, none⟩) k cap) (hs : a.eval s = .slice (some ad) sLen sCap)
    (cur : List Value) (t : TypeId) (hg : w.heap[g]? = some (.cells cur.toArray t (0, 0))) (cs : List Value) (hk : cs.length = k) (hcur : cur.length = k) (hle : k ≤ sLen)
    (hsrc : ∀ j v, cs[j]? = some v → w.cell? (ad.add j) = some v) (h1 : ∀ v ∈ cs, v.oneCell' = true)
    (h : ∀ w', w'.heap[g]? = some (.cells cs.toArray t (0, 0)) → Kept (fun q => q = g) w w' → wpList Tryz.prog ops Q rest (a.put o.dst (.int .i64 k)) w') : wpList Tryz.prog ops Q (o :: rest) a w := by
  refine wpList_copy_own hgd d s 24 24 ho 5 Tryz.underlying24 (by kernel_rfl) g 0 k cap ad sLen sCap hd hs cur.toArray t hg cs (by show _ = min _ _; omega) hsrc (by simp; omega) h1 ?_
  have e : (cur.toArray.toList.take 0 ++ (cs ++ cur.toArray.toList.drop (0 + cs.length))).toArray = cs.toArray := by
    rw [List.take_zero, List.nil_append, List.drop_of_length_le (by simp; omega), List.append_nil]
  rw [e]
  have e2 : goInt cs.length = .int .i64 (k : Nat) := by rw [hk]; rfl
  rw [e2]
  exact h _ (setRow_heap w g _ _ t _ hg) ⟨rfl, rfl, rfl, by simp, fun q _ hq => setRow_other w g q _ hq⟩
/-- Bytes taken. -/
def taken (bs : List Nat) (i k : Nat) : List Value := byteCells ((bs.drop i).take k)

theorem taken_one (bs : List Nat) (i k : Nat) : ∀ u ∈ taken bs i k, u.oneCell' = true := byteCells_one' _

set_option maxRecDepth 100000 in
set_option maxHeartbeats 2000000 in
theorem read_any (R B N cap i X k : Nat) (t : TypeId) (bs : List Nat) (cur : List Value) (w : World) (h : Rd R B N cap i bs w) (hk : 0 < k) (hik : i + k ≤ N) (hX : w.heap[X]? = some (.cells cur.toArray t (0, 0))) (hcur : cur.length = k) (hXR : X ≠ R) (hXB : X ≠ B) :
    Calls Tryz.prog 160 #[.pointer (some ⟨R, 0, none⟩), .slice (some ⟨X, 0, none⟩) k k] w fun e w' => e = .returned (.tuple #[.int .i64 k, .nilIface]) ∧ Rd R B N cap (i + k) bs w' ∧ w'.heap[X]? = some (.cells (taken bs i k).toArray t (0, 0)) ∧ Kept (fun q => q = R ∨ q = X) w w' := by
  obtain ⟨u, hu⟩ := h.prev
  have hp := h.pos
  have hs := h.src
  have f1 := h.free1
  have f2 := h.free2
  have hroom := h.room
  have H := Lib.hid h
  have k1 : ¬ (N : Int) ≤ i := by omega
  have k2 : (i : Int) ≤ N := by omega
  have k3 : ¬ cap = i := by omega
  have k4 : i ≤ N := by omega
  have k5 : (0 : Int) ≤ i := by omega
  have HX := Lib.hid hX
  have HC := Lib.hid hcur
  have HXR := Lib.hid (And.intro hXR hXB)
  clear h hX hcur hXR hXB
  go_enter Tryz.func160, Tryz.ntmps160
  go_upto_region 1 with fail
  go_quiet (fail)
  go_upto_region 4 with fail
  obtain ⟨ws, hws⟩ : ∃ ws, ws = (w.drewN nq).setCell ⟨R, 2, none⟩ (.int .i64 (-1)) := ⟨_, rfl⟩
  have hb0 : Below w.heap.size w (w.drewN nq) := below_drewN (Below.refl _ _) nq
  have hrd : Rd R B N cap i bs ws := by rw [hws]; exact (H.out.later hb0).prevSet _
  have hkw : Kept (fun q => q = R) w ws := by rw [hws]; exact (kept_of_below hb0 |>.sub (fun _ _ h => h.elim)).trans (kept_set _ R 2 _) (fun _ _ h => h)
  have hXw : ws.heap[X]? = some (.cells cur.toArray t (0, 0)) := by
    have hxl : X < w.heap.size := (Array.getElem?_eq_some_iff.1 HX.out).1
    rw [hkw.block X hxl HXR.out.1]; exact HX.out
  rw [← hws]
  have hp := hrd.pos
  have hs := hrd.src
  have f1 := hrd.free1
  have hcsl : (taken bs i k).length = k := by
    unfold taken byteCells
    rw [List.length_map, List.length_take, List.length_drop, hrd.len]
    omega
  have hsrc : ∀ j v, (taken bs i k)[j]? = some v → ws.cell? ((⟨B, i, none⟩ : Addr).add j) = some v := fun j v hj => by
    have hjk : j < k := by have := (List.getElem?_eq_some_iff.1 hj).1; omega
    unfold taken byteCells at hj
    rw [List.getElem?_map, List.getElem?_take_of_lt hjk, List.getElem?_drop] at hj
    obtain ⟨b, hb, rfl⟩ := Option.map_eq_some_iff.1 hj
    rw [Addr.add_lit]
    exact hrd.cell (i + j) b hb
  have HSRC := Lib.hid (And.intro hcsl hsrc)
  have HRD := Lib.hid (And.intro hrd hkw)
  have HXW := Lib.hid hXw
  have hmin : Nat.min (N - i) k = k := by show min _ _ = _; omega
  have HMIN := Lib.hid hmin
  clear hws hb0 hrd hkw hXw hcsl hsrc hmin
  go_still_tail 10, (by kernel_rfl)
  go_wp2_with (with_reducible refine wpList_take rfl (.tmp 20) (.tmp 29) rfl X k k ⟨B, i, none⟩ (N - i) (cap - i) rfl rfl cur t HXW.out (taken bs i k) HSRC.out.1 HC.out ?_ ?_ (taken_one bs i k) ?_)
  · omega
  · intro j v hj
    have := HSRC.out.2 j v hj
    rwa [Addr.add_lit] at this
  intro w2 hx2 hk2
  have hrd2 : Rd R B N cap i bs w2 := (HRD.out.1.later (Below.refl _ _).drew).kept hk2 (fun h => HXR.out.1 h.symm) (fun h => HXR.out.2 h.symm)
  have hp2 := hrd2.pos
  have f12 := hrd2.free1
  have HF := Lib.hid (show Rd R B N cap (i + k) bs (w2.setCell ⟨R, 1, none⟩ (.int .i64 (i + k : Nat))) ∧ (w2.setCell ⟨R, 1, none⟩ (.int .i64 (i + k : Nat))).heap[X]? = some (.cells (taken bs i k).toArray t (0, 0)) ∧ Kept (fun q => q = R ∨ q = X) w (w2.setCell ⟨R, 1, none⟩ (.int .i64 (i + k : Nat))) from
    ⟨hrd2.posSet _, by rw [Below.heap_setCell _ _ _ _ HXR.out.1]; exact hx2, (((HRD.out.2.sub (fun q _ h => Or.inl h)).trans ((kept_of_below (Below.refl _ ws).drew).sub (fun _ _ h => h.elim)) (fun q _ h => h)).trans (hk2.sub (fun q _ h => Or.inr h)) (fun q _ h => h)).trans ((kept_set w2 R 1 _).sub (fun q _ h => Or.inl h)) (fun q _ h => h)⟩)
  clear hx2 hk2 hrd2 hp hs f1
  go_wp2
  go_ret2
  exact ⟨rfl, HF.out⟩
end Go.Proofs.YtgggpllmgnpngaaGreatDoor.Tb
