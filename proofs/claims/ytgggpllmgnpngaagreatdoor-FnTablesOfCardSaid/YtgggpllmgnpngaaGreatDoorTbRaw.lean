/- A table's bytes, read: walked. -/
import Derived.Test.YtgggpllmgnpngaaGreatDoorTbOne
import Derived.Laws.MakeOwn
import Derived.Laws.OwnMore
namespace Go.Proofs.YtgggpllmgnpngaaGreatDoor.Tb
open Go Go.RowKit

set_option maxRecDepth 100000 in
set_option maxHeartbeats 2000000 in
theorem readat_any (R B N cap i X k o : Nat) (t : TypeId) (bs : List Nat) (cur : List Value) (w : World) (h : Rd R B N cap i bs w) (hk : 0 < k) (hik : o + k ≤ N) (hX : w.heap[X]? = some (.cells cur.toArray t (0, 0))) (hcur : cur.length = k) :
    Calls Tryz.prog 161 #[.pointer (some ⟨R, 0, none⟩), .slice (some ⟨X, 0, none⟩) k k, .int .i64 o] w fun e w' => e = .returned (.tuple #[.int .i64 k, .nilIface]) ∧ w'.heap[X]? = some (.cells (taken bs o k).toArray t (0, 0)) ∧ Kept (fun q => q = X) w w' := by
  have hs := h.src
  have hroom := h.room
  have k1 : ¬ (N : Int) ≤ o := by omega
  have k2 : (o : Int) ≤ N := by omega
  have k3 : ¬ cap = o := by omega
  have k4 : o ≤ N := by omega
  have k5 : (0 : Int) ≤ o := by omega
  have k6 : ¬ (o : Int) < 0 := by omega
  have k7 : ¬ (k : Int) < k := by omega
  have k8 : (o : Int) ≤ cap := by omega
  have hcsl : (taken bs o k).length = k := by
    unfold taken byteCells
    rw [List.length_map, List.length_take, List.length_drop, h.len]
    omega
  have hsrc : ∀ j v, (taken bs o k)[j]? = some v → w.cell? (⟨B, o + j, none⟩ : Addr) = some v := fun j v hj => by
    have hjk : j < k := by have := (List.getElem?_eq_some_iff.1 hj).1; omega
    unfold taken byteCells at hj
    rw [List.getElem?_map, List.getElem?_take_of_lt hjk, List.getElem?_drop] at hj
    obtain ⟨b, hb, rfl⟩ := Option.map_eq_some_iff.1 hj
    exact h.cell (o + j) b hb
  have HSRC := Lib.hid (And.intro hcsl hsrc)
  have HX := Lib.hid hX
  have HC := Lib.hid hcur
  clear h hX hcur hcsl hsrc
  go_enter Tryz.func161, Tryz.ntmps161
  go_wp2_with (with_reducible refine wpList_take rfl (.tmp 19) (.tmp 25) rfl X k k ⟨B, o, none⟩ (N - o) (cap - o) rfl rfl cur t HX.out (taken bs o k) HSRC.out.1 HC.out ?_ ?_ (taken_one bs o k) ?_)
  · omega
  · intro j v hj
    exact HSRC.out.2 j v hj
  intro w2 hx2 hk2
  have HF := Lib.hid (And.intro hx2 hk2)
  clear hx2 hk2 hs
  go_wp2
  go_ret2
  exact ⟨rfl, HF.out⟩

def zeros (n : Nat) : List Value := (madeCells #[.int .u8 0] n).toList

/-- The bytes read into a new row. -/
def RawGot (R B N cap i o k : Nat) (bs : List Nat) (w : World) (e : Ending) (w' : World) : Prop :=
  ∃ X, e = .returned (.tuple #[.slice (some ⟨X, 0, none⟩) k k, .nilIface]) ∧ w'.heap[X]? = some (.cells (taken bs o k).toArray 5 (0, 0)) ∧ w.heap.size ≤ X ∧ Rd R B N cap i bs w' ∧ Below w.heap.size w w'

set_option maxRecDepth 100000 in
set_option maxHeartbeats 4000000 in
theorem buf_any (L R B N cap i o k : Nat) (bs : List Nat) (w : World) (h : Rd R B N cap i bs w) (hl : w.cell? ⟨L, 0, none⟩ = some (.iface 84 (.pointer (some ⟨R, 0, none⟩)))) (hk : 0 < k) (hik : o + k ≤ N) :
    Calls Tryz.prog 82 #[.pointer (some ⟨L, 0, none⟩), .agg #[.int .u32 (o : Nat), .int .u32 (k : Nat), .int .u32 0], .slice none 0 0] w (RawGot R B N cap i o k bs w) := by
  have hroom := h.room
  have H := Lib.hid h
  have HL := Lib.hid hl
  have hmk : ∀ u : World, (Instr.makeSlice 24 (.int .u32 k) (.int .u32 k)).run Tryz.prog u = .ok (.slice (some ⟨u.heap.size, 0, none⟩) k k) (u.alloc (.cells (madeCells #[.int .u8 0] k) 5)) := fun u => by
    obtain ⟨i, h1, h2, h3, h4⟩ := info_parts (P := Tryz.prog) (e := 5) (z := .int .u8 0) (size := 1) (bytes := 1) (by kernel_rfl)
    have := run_make (P := Tryz.prog) u 24 5 i (.int .u8 0) Tryz.underlying24 h1 h2 .u32 .u32 k k (by omega) (by omega) (by rw [h4]; omega) (by omega)
    rw [h3] at this
    simpa [Value.cells] using this
  have hna : ∀ W, (nilAhead 360 84 (.pointer (some ⟨R, 0, none⟩)) "ReadAt").run Tryz.prog W = .ok (some false) W := fun W => nil_readat R W
  have hme : ∀ W, (method 360 84 (.pointer (some ⟨R, 0, none⟩)) "ReadAt").run Tryz.prog W = .ok (161, .pointer (some ⟨R, 0, none⟩)) W := fun W => method_readat R W
  have k1 : ¬ (k : Int) < 0 := by omega
  have k2 : (0 : Int) < k := by omega
  have k3 : ¬ (k : Int) = 0 := by omega
  have k4 : IntKind.i64.wrap (k : Int) = k := IntWalk.i64_in _ (by omega)
  have k5 : (0 : Int) ≤ k := by omega
  have k6 : IntKind.i64.wrap (o : Int) = o := IntWalk.i64_in _ (by omega)
  obtain ⟨w1, hw1⟩ : ∃ w1, w1 = w.alloc (.cells #[.int .u32 (o : Nat), .int .u32 (k : Nat), .int .u32 0] 167) := ⟨_, rfl⟩
  have hb1 : Below w.heap.size w w1 := by rw [hw1]; exact (Below.refl _ _).alloc (Nat.le_refl _) _
  have hn1 : w1.heap[w.heap.size]? = some (.cells #[.int .u32 (o : Nat), .int .u32 (k : Nat), .int .u32 0] 167 (0, 0)) := by rw [hw1]; exact heap_alloc_new _ _
  obtain ⟨T, hT⟩ : ∃ T, T = w.heap.size := ⟨_, rfl⟩
  have t0 : w1.cell? ⟨T, 0, none⟩ = some (.int .u32 (o : Nat)) := by rw [hT, cell_in hn1]; rfl
  have t1 : w1.cell? ⟨T, 1, none⟩ = some (.int .u32 (k : Nat)) := by rw [hT, cell_in hn1]; rfl
  have t2 : w1.cell? ⟨T, 2, none⟩ = some (.int .u32 0) := by rw [hT, cell_in hn1]; rfl
  obtain ⟨w2, hw2⟩ : ∃ w2, w2 = w1.alloc (.cells (madeCells #[.int .u8 0] k) 5) := ⟨_, rfl⟩
  have hb2 : Below w1.heap.size w1 w2 := by rw [hw2]; exact (Below.refl _ _).alloc (Nat.le_refl _) _
  have hn2 : w2.heap[w1.heap.size]? = some (.cells (madeCells #[.int .u8 0] k) 5 (0, 0)) := by rw [hw2]; exact heap_alloc_new _ _
  have hrd := (H.out.later hb1).later hb2
  have hb12 := hb1.trans (hb2.mono hb1.size)
  have s0 := below_cell hb2 t0
  have s1 := below_cell hb2 t1
  have l0 := below_cell hb12 HL.out
  have HRA := Lib.hid (readat_any R B N cap i w1.heap.size k o 5 bs (madeCells #[.int .u8 0] k).toList _ (hrd.later (Below.refl _ _).drew) hk hik (show w2.drew.heap[w1.heap.size]? = _ from by rw [Array.toArray_toList]; exact hn2) (by simp [madeCells]))
  have HRS := Lib.hid (show ¬ R = w1.heap.size ∧ ¬ B = w1.heap.size from ⟨fun e => by have := H.out.low.1; have := hb1.size; omega, fun e => by have := H.out.low.2; have := hb1.size; omega⟩)
  have HH := Lib.hid (And.intro hrd (And.intro hb12 (And.intro hb1.size (And.intro hw1 (And.intro hw2 hT)))))
  clear h hl hn1 hn2 hrd hb12 hb1 hb2 H HL hw1 hw2 hT
  go_enter Tryz.func82, Tryz.ntmps82
  go_upto_region 1 with fail
  rw [← HH.out.2.2.2.1, ← HH.out.2.2.2.2.2]
  go_upto_region 5 with fail
  rw [← HH.out.2.2.2.2.1]
  go_upto_region 6 with fail
  clear hmk
  go_region_with (go_at_call 161; (with_reducible refine HRA.out.mono ?_); rintro e w3 ⟨rfl, h1, h2⟩; have HF := Lib.hid (And.intro h1 h2); clear h1 h2)
  all_goals
    clear s0 s1 l0 t0 t1 t2
    go_wp2
    go_ret2
    obtain ⟨q1, q2, q3, q4, q5, q6⟩ := HH.out
    have hX : w1.heap.size < w2.heap.size := by rw [q5, World.size_alloc]; omega
    have q7 := q1.later (Below.refl _ w2).drew
    have q8 : Below w.heap.size w w3 := Kept.below (q2.trans ((Below.refl _ w2).drew.mono q2.size)) HF.out.2 q2.size (fun q hq e => by omega)
    exact ⟨_, rfl, HF.out.1, q3, q7.kept HF.out.2 HRS.out.1 HRS.out.2, q8⟩

theorem look_has {W : World} {M n i : Nat} {D : DataW Value} {val : Nat → Value} {S : List Nat} (h : W.ownsMap Tryz.prog 89 hv M n D) (hm : MapIs kTag val S D) (hi : i ∈ S) (hi8 : i < 8) :
    (Instr.lookup 121 (.map (some M)) (.int .u32 (tagN i : Nat)) true).run Tryz.prog W = .ok (.tuple #[val i, .bool true]) W := by
  have hlt := tagN_lt i hi8
  have hkey : keyOf Tryz.prog 89 (.int .u32 (tagN i : Nat)) = some (kTag i) := Maps.keyOf_int_mk Tryz.underlying89 (by simp [Lit.wf, IntKind.min, IntKind.max, IntKind.bits, IntKind.signed]; omega)
  obtain ⟨v, ps, h1, h2⟩ := h.look_ok (Maps.int_keyed Tryz.underlying89) Tryz.underlying121 (z := .agg #[.int .u32 0, .int .u32 0, .int .u32 0]) (by kernel_rfl) (zd := .held (.agg #[.int .u32 0, .int .u32 0, .int .u32 0])) (zp := []) rfl hkey
  rw [hm.has i hi] at h1
  rw [hm.get i hi] at h2
  rw [hv_inj h2] at h1
  exact h1

theorem look_none {W : World} {M n : Nat} {x : Int} {D : DataW Value} (h : W.ownsMap Tryz.prog 89 hv M n D) (hno : Maps.has D (.int .u32 x) = false) (hx : 0 ≤ x ∧ x < 4294967296) :
    (Instr.lookup 121 (.map (some M)) (.int .u32 x) true).run Tryz.prog W = .ok (.tuple #[.agg #[.int .u32 0, .int .u32 0, .int .u32 0], .bool false]) W := by
  have hkey : keyOf Tryz.prog 89 (.int .u32 x) = some (.int .u32 x) := Maps.keyOf_int_mk Tryz.underlying89 (by simp [Lit.wf, IntKind.min, IntKind.max, IntKind.bits, IntKind.signed]; omega)
  obtain ⟨v, ps, h1, h2⟩ := h.look_ok (Maps.int_keyed Tryz.underlying89) Tryz.underlying121 (z := .agg #[.int .u32 0, .int .u32 0, .int .u32 0]) (by kernel_rfl) (zd := .held (.agg #[.int .u32 0, .int .u32 0, .int .u32 0])) (zp := []) rfl hkey
  rw [hno] at h1
  rw [Maps.atKey_of_not_has hno] at h2
  rw [hv_inj h2] at h1
  exact h1

set_option maxRecDepth 100000 in
set_option maxHeartbeats 4000000 in
theorem raw_any (R B N cap i0 L M i n : Nat) (bs : List Nat) (at_ ln : Nat → Nat) (D : DataW Value) (val : Nat → Value) (w : World) (h : Rd R B N cap i0 bs w) (hl : w.cell? ⟨L, 0, none⟩ = some (.iface 84 (.pointer (some ⟨R, 0, none⟩)))) (hl1 : w.cell? ⟨L, 1, none⟩ = some (.map (some M)))
    (hm : w.ownsMap Tryz.prog 89 hv M n D) (hd : MapIs kTag val (down 8) D) (hv' : val i = secV at_ ln i) (hi : i < 8) (hk : 0 < ln i) (hik : at_ i + ln i ≤ N) :
    Calls Tryz.prog 30 #[.pointer (some ⟨L, 0, none⟩), .int .u32 (tagN i : Nat)] w (RawGot R B N cap i0 (at_ i) (ln i) bs w) := by
  have hlk := look_has hm hd (mem_down.2 hi) hi
  rw [hv'] at hlk
  unfold secV at hlk
  obtain ⟨w1, hw1⟩ : ∃ w1, w1 = w.alloc (.cells #[.int .u32 (at_ i : Nat), .int .u32 (ln i : Nat), .int .u32 0] 167) := ⟨_, rfl⟩
  have hb1 : Below w.heap.size w w1 := by rw [hw1]; exact (Below.refl _ _).alloc (Nat.le_refl _) _
  have hn1 : w1.heap[w.heap.size]? = some (.cells #[.int .u32 (at_ i : Nat), .int .u32 (ln i : Nat), .int .u32 0] 167 (0, 0)) := by rw [hw1]; exact heap_alloc_new _ _
  obtain ⟨T, hT⟩ : ∃ T, T = w.heap.size := ⟨_, rfl⟩
  have t0 : w1.cell? ⟨T, 0, none⟩ = some (.int .u32 (at_ i : Nat)) := by rw [hT, cell_in hn1]; rfl
  have t1 : w1.cell? ⟨T, 1, none⟩ = some (.int .u32 (ln i : Nat)) := by rw [hT, cell_in hn1]; rfl
  have t2 : w1.cell? ⟨T, 2, none⟩ = some (.int .u32 0) := by rw [hT, cell_in hn1]; rfl
  have HB := Lib.hid (buf_any L R B N cap i0 (at_ i) (ln i) bs w1 (h.later hb1) (below_cell hb1 hl) hk hik)
  have HH := Lib.hid (And.intro hw1 (And.intro hT hb1))
  have HX : Hid (Calls Tryz.prog 51 #[.pointer (some ⟨L, 0, none⟩), .int .u32 (tagN i : Nat), .slice none 0 0] w (RawGot R B N cap i0 (at_ i) (ln i) bs w)) := by
    refine Lib.hid ?_
    clear h hl hm hd hv' hi hk hik hw1 hT hb1 hn1
    go_enter Tryz.func51, Tryz.ntmps51
    go_upto_region 2 with fail
    rw [← HH.out.1, ← HH.out.2.1]
    go_wp2_with fail
    with_reducible refine HB.out.mono ?_
    rintro e w3 ⟨X, rfl, h1, h2, h3, h4⟩
    go_wp2_with fail
    go_ret2
    exact ⟨X, rfl, h1, Nat.le_trans HH.out.2.2.size h2, h3, HH.out.2.2.trans (h4.mono HH.out.2.2.size)⟩
  clear h hl hm hd hv' hi hk hik hw1 hT hb1 hn1 t0 t1 t2 hlk hl1 HB HH
  go_enter Tryz.func30, Tryz.ntmps30
  go_wp2_with fail
  with_reducible refine HX.out.mono ?_
  rintro e w3 ⟨X, rfl, h1⟩
  go_wp2_with fail
  go_ret2
  exact ⟨X, rfl, h1⟩
end Go.Proofs.YtgggpllmgnpngaaGreatDoor.Tb
