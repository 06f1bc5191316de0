/- A font, loaded: walked. -/
import Derived.Test.YtgggpllmgnpngaaGreatDoorTbOtf
namespace Go.Proofs.YtgggpllmgnpngaaGreatDoor.Tb
open Go Go.RowKit

theorem Loaded.start {R B N cap : Nat} {bs : List Nat} {at_ ln : Nat → Nat} {w w1 w' : World} {e : Ending} (k : Kept (fun q => q = R) w w1) (h : Loaded R B N cap bs at_ ln w1 e w') : Loaded R B N cap bs at_ ln w e w' := by
  obtain ⟨L, M, h1, h2⟩ := h
  have hs := k.size
  obtain ⟨l1, l2, l3, l4, l5⟩ := h2.low
  exact ⟨L, M, h1, h2.rd, k.trans h2.kept (fun _ _ h => h), h2.ld0, h2.ld1, ⟨by omega, by omega, l3, l4, l5⟩, h2.map⟩

set_option maxRecDepth 100000 in
set_option maxHeartbeats 4000000 in
theorem font_any (R B N cap : Nat) (bs : List Nat) (at_ ln : Nat → Nat) (i0 : Nat) (w : World) (hd : Dir bs at_ ln) (h : Rd R B N cap i0 bs w) :
    Calls Tryz.prog 47 #[.iface 84 (.pointer (some ⟨R, 0, none⟩)), .int .u32 0, .bool false] w (Loaded R B N cap bs at_ ln w) := by
  have HS := Lib.hid (seek_any R B N cap i0 bs w h)
  have HD := Lib.hid hd
  have hme : ∀ W, (method 360 84 (.pointer (some ⟨R, 0, none⟩)) "Seek").run Tryz.prog W = .ok (162, .pointer (some ⟨R, 0, none⟩)) W := fun W => method_seek R W
  have hna2 : ∀ W, (nilAhead 360 84 (.pointer (some ⟨R, 0, none⟩)) "Read").run Tryz.prog W = .ok (some false) W := fun W => nil_read R W
  have hme2 : ∀ W, (method 360 84 (.pointer (some ⟨R, 0, none⟩)) "Read").run Tryz.prog W = .ok (160, .pointer (some ⟨R, 0, none⟩)) W := fun W => method_read R W
  have HLEN := Lib.hid (And.intro h.len hd.len)
  have HN := Lib.hid (fun W => show Calls Tryz.prog 50 #[.int .u8 0, .int .u8 1, .int .u8 0, .int .u8 0] W (fun e w' => e = .returned (.int .u32 65536) ∧ W = w') from newtag_any 0 1 0 0 W (by omega) (by omega) (by omega) (by omega))
  clear h hd
  go_enter Tryz.func47, Tryz.ntmps47
  go_wp2_with fail
  with_reducible refine HS.out.mono ?_
  rintro e w1 ⟨rfl, h1, h2⟩
  have hk1 : Below w1.heap.size w1 (w1.alloc (.cells #[Value.int .u8 0, Value.int .u8 0, Value.int .u8 0, Value.int .u8 0] 152)) := (Below.refl _ _).alloc (Nat.le_refl _) _
  have HG := Lib.hid (fun W (hW : W = (w1.alloc (.cells #[Value.int .u8 0, Value.int .u8 0, Value.int .u8 0, Value.int .u8 0] 152)).drew) => show Calls Tryz.prog 160 #[.pointer (some ⟨R, 0, none⟩), .slice (some ⟨w1.heap.size, 0, none⟩) 4 4] W (Got R B N cap 0 w1.heap.size 4 152 bs (w1.alloc (.cells #[Value.int .u8 0, Value.int .u8 0, Value.int .u8 0, Value.int .u8 0] 152))) from by
    subst hW
    have hl := HLEN.out
    have hlow := h1.low
    exact (read_any R B N cap 0 w1.heap.size 4 152 bs [Value.int .u8 0, Value.int .u8 0, Value.int .u8 0, Value.int .u8 0] _ ((h1.later hk1).later (Below.refl _ _).drew) (by omega) (by omega) (heap_alloc_new w1 _) (by simp) (by omega) (by omega)).mono fun _ _ hg => Got.drew hg)
  have HK := Lib.hid (And.intro h2 (And.intro hk1 h1))
  clear h1 h2 hk1 HS
  go_upto_region 5 with fail
  go_region_with (go_at_call 160; (with_reducible refine (HG.out _ rfl).mono ?_); rintro e w2 ⟨rfl, h1, h2, h3⟩; have HH := Lib.hid (And.intro h1 (And.intro h2 h3)); clear h1 h2 h3)
  all_goals
    obtain ⟨b0, b1, b2, b3, _⟩ := HD.out.head
    have hc : ∀ j b, j < 4 → bs[0 + j]? = some b → w2.cell? ⟨w1.heap.size, j, none⟩ = some (.int .u8 (b : Nat)) := fun j b hj hbj => by
      rw [cell_in HH.out.2.1]
      simpa using taken_cell hj hbj
    have d0 : w2.cell? ⟨w1.heap.size, 0, none⟩ = some (.int .u8 0) := hc 0 0 (by omega) b0
    have d1 : w2.cell? ⟨w1.heap.size, 1, none⟩ = some (.int .u8 1) := hc 1 1 (by omega) b1
    have d2 : w2.cell? ⟨w1.heap.size, 2, none⟩ = some (.int .u8 0) := hc 2 0 (by omega) b2
    have d3 : w2.cell? ⟨w1.heap.size, 3, none⟩ = some (.int .u8 0) := hc 3 0 (by omega) b3
    have hkept : Kept (fun q => q = R) w w2 := HK.out.1.trans (((kept_of_below HK.out.2.1).sub (fun _ _ h => h.elim)).trans HH.out.2.2 (fun q hq h => by
      rcases h with h | h
      · exact h
      · omega)) (fun _ _ h => h)
    have HO := Lib.hid ((otf_any R B N cap bs at_ ln 4 w2 HD.out HH.out.1).mono fun _ _ hl => Loaded.start hkept hl)
    clear hc hkept b0 b1 b2 b3 HH HK HG hna2 hme2 hme
    go_wp2_with fail
    with_reducible refine (HN.out _).mono ?_
    rintro e w3 ⟨rfl, hw⟩
    subst hw
    go_wp2_with fail
    with_reducible refine HO.out.mono ?_
    rintro e w4 ⟨L, M, rfl, h9⟩
    go_wp2_with fail
    go_ret2
    exact ⟨L, M, rfl, h9⟩

set_option maxHeartbeats 1000000 in
theorem loader_any (R B N cap : Nat) (bs : List Nat) (at_ ln : Nat → Nat) (i0 : Nat) (w : World) (hd : Dir bs at_ ln) (h : Rd R B N cap i0 bs w) :
    Calls Tryz.prog 26 #[.iface 84 (.pointer (some ⟨R, 0, none⟩))] w (Loaded R B N cap bs at_ ln w) := by
  have HF := Lib.hid (font_any R B N cap bs at_ ln i0 w hd h)
  clear hd h
  go_enter Tryz.func26, Tryz.ntmps26
  go_wp2_with fail
  with_reducible refine HF.out.mono ?_
  rintro e w4 ⟨L, M, rfl, h9⟩
  go_wp2_with fail
  go_ret2
  exact ⟨L, M, rfl, h9⟩

set_option maxHeartbeats 1000000 in
theorem reader_any (B N cap : Nat) (bs : List Nat) (w : World) (hl : bs.length = N) (hb : ∀ b ∈ bs, b < 256) (hc : ∀ j b, bs[j]? = some b → w.cell? ⟨B, j, none⟩ = some (.int .u8 (b : Nat))) (hr : N ≤ cap ∧ cap ≤ 9223372036854775807 ∧ N ≤ 100000) (hB : B < w.heap.size) :
    Calls Tryz.prog 27 #[.slice (some ⟨B, 0, none⟩) N cap] w fun e w' => e = .returned (.pointer (some ⟨w.heap.size, 0, none⟩)) ∧ Rd w.heap.size B N cap 0 bs w' ∧ Below w.heap.size w w' := by
  have hbl : Below w.heap.size w (w.alloc (.cells #[.slice (some ⟨B, 0, none⟩) N cap, .int .i64 0, .int .i64 (-1)] 120)) := (Below.refl _ _).alloc (Nat.le_refl _) _
  have hn := heap_alloc_new w (.cells #[.slice (some ⟨B, 0, none⟩) N cap, .int .i64 0, .int .i64 (-1)] 120)
  have HR := Lib.hid (show Rd w.heap.size B N cap 0 bs (w.alloc (.cells #[.slice (some ⟨B, 0, none⟩) N cap, .int .i64 0, .int .i64 (-1)] 120)) ∧ Below w.heap.size w (w.alloc (.cells #[.slice (some ⟨B, 0, none⟩) N cap, .int .i64 0, .int .i64 (-1)] 120)) from
    ⟨⟨by rw [cell_in hn]; rfl, by rw [cell_in hn]; rfl, ⟨_, by rw [cell_in hn]; rfl⟩, by unfold World.frozen?; simp only [hn]; rfl, by unfold World.frozen?; simp only [hn]; rfl, by omega, hl, hb, fun j b hj => below_cell hbl (hc j b hj), hr, by simp; omega⟩, hbl⟩)
  clear hn hbl hl hb hc hr hB
  go_enter Tryz.func27, Tryz.ntmps27
  go_wp2_with fail
  go_ret
  exact ⟨rfl, HR.out.1, HR.out.2⟩
end Go.Proofs.YtgggpllmgnpngaaGreatDoor.Tb
