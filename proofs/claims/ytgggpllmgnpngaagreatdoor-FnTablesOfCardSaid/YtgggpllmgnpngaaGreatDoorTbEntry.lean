/- An entry of a file's directory, read: walked. -/
import Derived.Test.YtgggpllmgnpngaaGreatDoorTbHead
namespace Go.Proofs.YtgggpllmgnpngaaGreatDoor.Tb
open Go Go.RowKit

/-- An entry's four numbers. -/
def entryV (b : Nat → Nat) : Value := .agg #[.int .u32 (be4 (b 0) (b 1) (b 2) (b 3) : Nat), .int .u32 (be4 (b 4) (b 5) (b 6) (b 7) : Nat), .int .u32 (be4 (b 8) (b 9) (b 10) (b 11) : Nat), .int .u32 (be4 (b 12) (b 13) (b 14) (b 15) : Nat)]
def Entered (R B N cap i : Nat) (bs : List Nat) (b : Nat → Nat) (w : World) (e : Ending) (w' : World) : Prop :=
  e = .returned (.tuple #[entryV b, .nilIface]) ∧ Rd R B N cap (i + 16) bs w' ∧ Kept (fun q => q = R) w w'

/-- The bytes held. -/
def HeldB (X : Nat) (b : Nat → Nat) (W : World) : Prop := X < W.heap.size ∧ ∀ j, j < 16 → b j < 256 ∧ W.cell? ⟨X, j, none⟩ = some (.int .u8 (b j : Nat))
theorem HeldB.kept {X : Nat} {b : Nat → Nat} {S : Nat → Prop} {W W' : World} (h : HeldB X b W) (k : Kept S W W') (hX : ¬ S X) : HeldB X b W' :=
  ⟨Nat.lt_of_lt_of_le h.1 k.size, fun j hj => ⟨(h.2 j hj).1, k.cell (h.2 j hj).2 hX⟩⟩

def num4 (b : Nat → Nat) (j : Nat) : Nat := be4 (b (4 * j)) (b (4 * j + 1)) (b (4 * j + 2)) (b (4 * j + 3))
/-- The entry, so many of its numbers set. -/
structure EntS (R B N cap i : Nat) (bs : List Nat) (b : Nat → Nat) (w : World) (k : Nat) (W : World) : Prop where
  rd : Rd R B N cap (i + 16) bs W
  kept : Kept (fun q => q = R) w W
  held : HeldB (w.heap.size + 1) b W
  size : w.heap.size + 3 ≤ W.heap.size
  ent : ∀ j, j < 4 → W.cell? ⟨w.heap.size + 2, j, none⟩ = some (.int .u32 ((if j < k then num4 b j else 0 : Nat) : Nat))
  free : ∀ j, W.frozen? ⟨w.heap.size + 2, j, none⟩ = false
  out : W.heap[w.heap.size]? = some (.cells #[.int .u32 0, .int .u32 0, .int .u32 0, .int .u32 0] 198 (0, 0))

theorem EntS.drew {R B N cap i k : Nat} {bs : List Nat} {b : Nat → Nat} {w W : World} (h : EntS R B N cap i bs b w k W) : EntS R B N cap i bs b w k W.drew := by
  have hb := (Below.refl W.heap.size W).drew
  exact ⟨h.rd.later hb, h.kept.trans (kept_of_below hb) (fun _ _ h => h.elim), h.held.kept (kept_of_below hb) (fun h => h), h.size, h.ent, h.free, h.out⟩
theorem EntS.step {R B N cap i k : Nat} {bs : List Nat} {b : Nat → Nat} {w W W1 : World} (h : EntS R B N cap i bs b w k W) (hR : R < w.heap.size) (hB : B < w.heap.size) (hk : k < 4) (hb : Below W.heap.size W W1) :
    (W1.cell? ⟨w.heap.size + 2, k, none⟩ = some (.int .u32 0) ∧ W1.frozen? ⟨w.heap.size + 2, k, none⟩ = false) ∧ EntS R B N cap i bs b w (k + 1) (W1.setCell ⟨w.heap.size + 2, k, none⟩ (.int .u32 (num4 b k : Nat))) := by
  have hs := h.size
  have hs1 := hb.size
  have e0 : ∀ j, j < 4 → W1.cell? ⟨w.heap.size + 2, j, none⟩ = some (.int .u32 ((if j < k then num4 b j else 0 : Nat) : Nat)) := fun j hj => below_cell hb (h.ent j hj)
  have f0 : ∀ j, W1.frozen? ⟨w.heap.size + 2, j, none⟩ = false := fun j => by rw [← h.free j]; exact hb.frozen (by show w.heap.size + 2 < _; omega)
  have ek := e0 k hk
  rw [if_neg (Nat.lt_irrefl k)] at ek
  have kk : Kept (fun q => q = w.heap.size + 2) W1 (W1.setCell ⟨w.heap.size + 2, k, none⟩ (.int .u32 (num4 b k : Nat))) := kept_set _ _ _ _
  refine ⟨⟨ek, f0 k⟩, (h.rd.later hb).kept kk (by omega) (by omega), ?_, (h.held.kept (kept_of_below hb) (fun h => h)).kept kk (by omega), by rw [World.size_setCell]; omega, fun j hj => ?_, fun j => by rw [World.frozen?_setCell]; exact f0 j, ?_⟩
  · exact (h.kept.trans (kept_of_below hb) (fun _ _ h => h.elim)).trans kk (fun q hq h => by omega)
  · by_cases hjk : j = k
    · subst hjk
      rw [World.cell?_setCell_same _ _ _ ek, if_pos (by omega)]
    · rw [World.cell?_setCell_other _ _ _ _ (by simp), e0 j hj]
      by_cases hl : j < k
      · rw [if_pos hl, if_pos (by omega)]
      · rw [if_neg hl, if_neg (by omega)]
  · rw [Below.heap_setCell _ _ _ _ (by show w.heap.size ≠ w.heap.size + 2; omega), hb.block _ (by omega)]
    exact h.out

theorem u32_held (X : Nat) (b : Nat → Nat) (k cap : Nat) (hk : k < 4) (W : World) (h : HeldB X b W) : Calls Tryz.prog 134 #[.agg #[], .slice (some ⟨X, 4 * k, none⟩) 4 cap] W fun e w' => e = .returned (.int .u32 (num4 b k : Nat)) ∧ Below W.heap.size W w' := by
  have h0 := h.2 (4 * k) (by omega)
  have h1 := h.2 (4 * k + 1) (by omega)
  have h2 := h.2 (4 * k + 2) (by omega)
  have h3 := h.2 (4 * k + 3) (by omega)
  exact u32_any X (4 * k) cap _ _ _ _ W h0.1 h1.1 h2.1 h3.1 h0.2 h1.2 h2.2 h3.2

set_option maxRecDepth 100000 in
set_option maxHeartbeats 4000000 in
theorem entry_any (R B N cap i : Nat) (bs : List Nat) (b : Nat → Nat) (w : World) (h : Rd R B N cap i bs w) (hN : i + 16 ≤ N) (hb : ∀ j, j < 16 → bs[i + j]? = some (b j)) :
    Calls Tryz.prog 107 #[.iface 84 (.pointer (some ⟨R, 0, none⟩))] w (Entered R B N cap i bs b w) := by
  have hR := h.low
  obtain ⟨w0, hw0⟩ : ∃ w0, w0 = ((w.alloc (.cells #[.int .u32 0, .int .u32 0, .int .u32 0, .int .u32 0] 198)).alloc (.cells #[Value.int .u8 0, Value.int .u8 0, Value.int .u8 0, Value.int .u8 0, Value.int .u8 0, Value.int .u8 0, Value.int .u8 0, Value.int .u8 0, Value.int .u8 0, Value.int .u8 0, Value.int .u8 0, Value.int .u8 0, Value.int .u8 0, Value.int .u8 0, Value.int .u8 0, Value.int .u8 0] 229)).alloc (.cells #[.int .u32 0, .int .u32 0, .int .u32 0, .int .u32 0] 198) := ⟨_, rfl⟩
  have hk1 : Below w.heap.size w w0 := by rw [hw0]; exact (((Below.refl _ _).alloc (Nat.le_refl _) _).alloc (by simp) _).alloc (by simp; omega) _
  have hX : w0.heap[w.heap.size + 1]? = some (.cells #[Value.int .u8 0, Value.int .u8 0, Value.int .u8 0, Value.int .u8 0, Value.int .u8 0, Value.int .u8 0, Value.int .u8 0, Value.int .u8 0, Value.int .u8 0, Value.int .u8 0, Value.int .u8 0, Value.int .u8 0, Value.int .u8 0, Value.int .u8 0, Value.int .u8 0, Value.int .u8 0] 229 (0, 0)) := by
    rw [hw0, Below.heap_alloc _ _ _ (by simp)]
    have := heap_alloc_new (w.alloc (.cells #[.int .u32 0, .int .u32 0, .int .u32 0, .int .u32 0] 198)) (.cells #[Value.int .u8 0, Value.int .u8 0, Value.int .u8 0, Value.int .u8 0, Value.int .u8 0, Value.int .u8 0, Value.int .u8 0, Value.int .u8 0, Value.int .u8 0, Value.int .u8 0, Value.int .u8 0, Value.int .u8 0, Value.int .u8 0, Value.int .u8 0, Value.int .u8 0, Value.int .u8 0] 229)
    rwa [World.size_alloc] at this
  have hE : w0.heap[w.heap.size + 2]? = some (.cells #[.int .u32 0, .int .u32 0, .int .u32 0, .int .u32 0] 198 (0, 0)) := by
    rw [hw0]
    have := heap_alloc_new ((w.alloc (.cells #[.int .u32 0, .int .u32 0, .int .u32 0, .int .u32 0] 198)).alloc (.cells #[Value.int .u8 0, Value.int .u8 0, Value.int .u8 0, Value.int .u8 0, Value.int .u8 0, Value.int .u8 0, Value.int .u8 0, Value.int .u8 0, Value.int .u8 0, Value.int .u8 0, Value.int .u8 0, Value.int .u8 0, Value.int .u8 0, Value.int .u8 0, Value.int .u8 0, Value.int .u8 0] 229)) (.cells #[.int .u32 0, .int .u32 0, .int .u32 0, .int .u32 0] 198)
    rwa [World.size_alloc, World.size_alloc] at this
  have hO : w0.heap[w.heap.size]? = some (.cells #[.int .u32 0, .int .u32 0, .int .u32 0, .int .u32 0] 198 (0, 0)) := by
    rw [hw0, Below.heap_alloc _ _ _ (by simp; omega), Below.heap_alloc _ _ _ (by simp)]
    exact heap_alloc_new w _
  have HG := Lib.hid (full_any R B N cap i (w.heap.size + 1) 16 229 bs [Value.int .u8 0, Value.int .u8 0, Value.int .u8 0, Value.int .u8 0, Value.int .u8 0, Value.int .u8 0, Value.int .u8 0, Value.int .u8 0, Value.int .u8 0, Value.int .u8 0, Value.int .u8 0, Value.int .u8 0, Value.int .u8 0, Value.int .u8 0, Value.int .u8 0, Value.int .u8 0] w0 (h.later hk1) (by omega) hN hX rfl (by omega) (by omega))
  have HW0 := Lib.hid (And.intro hw0 (And.intro hk1 (And.intro hE hO)))
  have HBB := Lib.hid hb
  have HBL := Lib.hid h.byte
  clear h hk1 hX hE hO hb hw0
  go_enter Tryz.func107, Tryz.ntmps107
  go_upto_region 3 with fail
  rw [← HW0.out.1]
  go_wp2_with fail
  with_reducible refine HG.out.mono ?_
  rintro e w1 ⟨rfl, h1, h2, h3⟩
  have hsz : w.heap.size + 3 ≤ w1.heap.size := by have := h3.size; rw [HW0.out.1] at this; simp at this; omega
  have hB0 : HeldB (w.heap.size + 1) b w1 := ⟨by omega, fun j hj => ⟨HBL.out _ (List.mem_of_getElem? (HBB.out j hj)), by rw [cell_in h2]; simpa using taken_cell hj (HBB.out j hj)⟩⟩
  have hE1 : w1.heap[w.heap.size + 2]? = some (.cells #[.int .u32 0, .int .u32 0, .int .u32 0, .int .u32 0] 198 (0, 0)) := by
    rw [h3.block _ (by rw [HW0.out.1]; simp) (by omega)]; exact HW0.out.2.2.1
  have hO1 : w1.heap[w.heap.size]? = some (.cells #[.int .u32 0, .int .u32 0, .int .u32 0, .int .u32 0] 198 (0, 0)) := by
    rw [h3.block _ (by rw [HW0.out.1]; simp; omega) (by omega)]; exact HW0.out.2.2.2
  have hkept : Kept (fun q => q = R) w w1 := ((kept_of_below HW0.out.2.1).sub (fun _ _ h => h.elim)).trans h3 (fun q hq h => by
    rcases h with h | h
    · exact h
    · omega)
  have HRD := Lib.hid h1
  have HK := Lib.hid hkept
  have HB0 := Lib.hid hB0
  have HE1 := Lib.hid (And.intro hE1 hO1)
  clear h1 h2 h3 hB0 hE1 hO1 hkept HG
  obtain ⟨ws0, rfl⟩ : ∃ w' : World, w' = w1 := ⟨_, rfl⟩
  have HS0 : Hid (EntS R B N cap i bs b w 0 ws0) := Lib.hid ⟨HRD.out, HK.out, HB0.out, hsz, fun j hj => by
    rw [cell_in HE1.out.1]
    match j, hj with
    | 0, _ | 1, _ | 2, _ | 3, _ => rfl, fun j => frozen_in HE1.out.1, HE1.out.2⟩
  clear HRD HK HB0 HE1 hsz
  go_upto_region 6 with fail
  go_cut [] (fun W => EntS R B N cap i bs b w 1 W)
  case first =>
    have hd := HS0.out.drew
    have HU := Lib.hid (show Calls Tryz.prog 134 #[.agg #[], .slice (some ⟨w.heap.size + 1, 0, none⟩) 4 16] ws0.drew _ from u32_held (w.heap.size + 1) b 0 16 (by omega) ws0.drew hd.held)
    have HD := Lib.hid hd
    clear hd
    go_region_with (go_at_call 134; (with_reducible refine HU.out.mono ?_); rintro e w2 ⟨rfl, hb2⟩; have hq := HD.out.step (k := 0) hR.1 hR.2 (by omega) hb2; have q0 := hq.1.1; have q1 := hq.1.2; have q2 := Lib.hid hq.2; clear hq hb2)
    all_goals
      go_wp2_with fail
      go_meet
      case rel => exact q2.out
  case rest =>
  obtain ⟨ws1, rfl⟩ : ∃ w' : World, w' = wc := ⟨_, rfl⟩
  have HS1 := Lib.hid hcut
  clear hcut
  go_upto_region 7 with fail
  go_cut [] (fun W => EntS R B N cap i bs b w 2 W)
  case first =>
    have hd := HS1.out.drew
    have HU := Lib.hid (show Calls Tryz.prog 134 #[.agg #[], .slice (some ⟨w.heap.size + 1, 4, none⟩) 4 12] ws1.drew _ from u32_held (w.heap.size + 1) b 1 12 (by omega) ws1.drew hd.held)
    have HD := Lib.hid hd
    clear hd
    go_region_with (go_at_call 134; (with_reducible refine HU.out.mono ?_); rintro e w2 ⟨rfl, hb2⟩; have hq := HD.out.step (k := 1) hR.1 hR.2 (by omega) hb2; have q0 := hq.1.1; have q1 := hq.1.2; have q2 := Lib.hid hq.2; clear hq hb2)
    all_goals
      go_wp2_with fail
      go_meet
      case rel => exact q2.out
  case rest =>
  obtain ⟨ws2, rfl⟩ : ∃ w' : World, w' = wc := ⟨_, rfl⟩
  have HS2 := Lib.hid hcut
  clear hcut
  go_upto_region 8 with fail
  go_cut [] (fun W => EntS R B N cap i bs b w 3 W)
  case first =>
    have hd := HS2.out.drew
    have HU := Lib.hid (show Calls Tryz.prog 134 #[.agg #[], .slice (some ⟨w.heap.size + 1, 8, none⟩) 4 8] ws2.drew _ from u32_held (w.heap.size + 1) b 2 8 (by omega) ws2.drew hd.held)
    have HD := Lib.hid hd
    clear hd
    go_region_with (go_at_call 134; (with_reducible refine HU.out.mono ?_); rintro e w2 ⟨rfl, hb2⟩; have hq := HD.out.step (k := 2) hR.1 hR.2 (by omega) hb2; have q0 := hq.1.1; have q1 := hq.1.2; have q2 := Lib.hid hq.2; clear hq hb2)
    all_goals
      go_wp2_with fail
      go_meet
      case rel => exact q2.out
  case rest =>
  obtain ⟨ws3, rfl⟩ : ∃ w' : World, w' = wc := ⟨_, rfl⟩
  have HS3 := Lib.hid hcut
  clear hcut
  go_upto_region 9 with fail
  go_cut [] (fun W => EntS R B N cap i bs b w 4 W)
  case first =>
    have hd := HS3.out.drew
    have HU := Lib.hid (show Calls Tryz.prog 134 #[.agg #[], .slice (some ⟨w.heap.size + 1, 12, none⟩) 4 4] ws3.drew _ from u32_held (w.heap.size + 1) b 3 4 (by omega) ws3.drew hd.held)
    have HD := Lib.hid hd
    clear hd
    go_region_with (go_at_call 134; (with_reducible refine HU.out.mono ?_); rintro e w2 ⟨rfl, hb2⟩; have hq := HD.out.step (k := 3) hR.1 hR.2 (by omega) hb2; have q0 := hq.1.1; have q1 := hq.1.2; have q2 := Lib.hid hq.2; clear hq hb2)
    all_goals
      go_wp2_with fail
      go_meet
      case rel => exact q2.out
  case rest =>
  obtain ⟨ws4, rfl⟩ : ∃ w' : World, w' = wc := ⟨_, rfl⟩
  have HS4 := Lib.hid hcut
  clear hcut
  have e0 := HS4.out.ent 0 (by omega)
  have e1 := HS4.out.ent 1 (by omega)
  have e2 := HS4.out.ent 2 (by omega)
  have e3 := HS4.out.ent 3 (by omega)
  rw [if_pos (by omega)] at e0 e1 e2 e3
  have ho := HS4.out.out
  have o0 : ws4.cell? ⟨w.heap.size, 0, none⟩ = some (.int .u32 0) := by rw [cell_in ho]; rfl
  have o1 : ws4.cell? ⟨w.heap.size, 1, none⟩ = some (.int .u32 0) := by rw [cell_in ho]; rfl
  have o2 : ws4.cell? ⟨w.heap.size, 2, none⟩ = some (.int .u32 0) := by rw [cell_in ho]; rfl
  have o3 : ws4.cell? ⟨w.heap.size, 3, none⟩ = some (.int .u32 0) := by rw [cell_in ho]; rfl
  have f0 : ws4.frozen? ⟨w.heap.size, 0, none⟩ = false := frozen_in ho
  have f1 : ws4.frozen? ⟨w.heap.size, 1, none⟩ = false := frozen_in ho
  have f2 : ws4.frozen? ⟨w.heap.size, 2, none⟩ = false := frozen_in ho
  have f3 : ws4.frozen? ⟨w.heap.size, 3, none⟩ = false := frozen_in ho
  have hlast : ∀ a b c d, Rd R B N cap (i + 16) bs ((((ws4.setCell ⟨w.heap.size, 0, none⟩ a).setCell ⟨w.heap.size, 1, none⟩ b).setCell ⟨w.heap.size, 2, none⟩ c).setCell ⟨w.heap.size, 3, none⟩ d) ∧ Kept (fun q => q = R) w ((((ws4.setCell ⟨w.heap.size, 0, none⟩ a).setCell ⟨w.heap.size, 1, none⟩ b).setCell ⟨w.heap.size, 2, none⟩ c).setCell ⟨w.heap.size, 3, none⟩ d) := fun a b c d => by
    have kk : Kept (fun q => q = w.heap.size) ws4 ((((ws4.setCell ⟨w.heap.size, 0, none⟩ a).setCell ⟨w.heap.size, 1, none⟩ b).setCell ⟨w.heap.size, 2, none⟩ c).setCell ⟨w.heap.size, 3, none⟩ d) :=
      (((kept_set _ _ _ _).trans (kept_set _ _ _ _) (fun _ _ h => h)).trans (kept_set _ _ _ _) (fun _ _ h => h)).trans (kept_set _ _ _ _) (fun _ _ h => h)
    exact ⟨HS4.out.rd.kept kk (by omega) (by omega), HS4.out.kept.trans kk (fun q hq h => by omega)⟩
  have HLAST := Lib.hid hlast
  clear ho hlast
  go_wp2_with fail
  exact bodyPost_ret (v := .tuple #[.agg #[.int .u32 (num4 b 0 : Nat), .int .u32 (num4 b 1 : Nat), .int .u32 (num4 b 2 : Nat), .int .u32 (num4 b 3 : Nat)], .nilIface]) (by simp [results, Tryz.results107, go_sem, o0, o1, o2, o3]) rfl ⟨rfl, HLAST.out _ _ _ _⟩
end Go.Proofs.YtgggpllmgnpngaaGreatDoor.Tb
