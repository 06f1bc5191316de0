/- A font file's bytes, walked: up to the map of tables. -/
import Derived.Test.YtgggpllmgnpngaaGreatDoorTbGather
import Derived.Maps.OwnOps
namespace Go.Proofs.YtgggpllmgnpngaaGreatDoor.Tb
open Go Go.RowKit

def pv11 (F R m : Nat) : Nat → Value
  | 2 => pt F 0
  | 6 => pt R 0
  | 7 => pt F 0
  | 10 => .map (some m)
  | _ => undef
theorem fr11 (f : Nat → Value) (F R m : Nat) : ((List.range 209).map fun t => if [2, 6, 7, 10].contains t then pv11 F R m t else f t) = [f 0, f 1, pt F 0, f 3, f 4, f 5, pt R 0, pt F 0, f 8, f 9, .map (some m), f 11, f 12, f 13, f 14, f 15, f 16, f 17, f 18, f 19, f 20, f 21, f 22, f 23, f 24, f 25, f 26, f 27, f 28, f 29, f 30, f 31, f 32, f 33, f 34, f 35, f 36, f 37, f 38, f 39, f 40, f 41, f 42, f 43, f 44, f 45, f 46, f 47, f 48, f 49, f 50, f 51, f 52, f 53, f 54, f 55, f 56, f 57, f 58, f 59, f 60, f 61, f 62, f 63, f 64, f 65, f 66, f 67, f 68, f 69, f 70, f 71, f 72, f 73, f 74, f 75, f 76, f 77, f 78, f 79, f 80, f 81, f 82, f 83, f 84, f 85, f 86, f 87, f 88, f 89, f 90, f 91, f 92, f 93, f 94, f 95, f 96, f 97, f 98, f 99, f 100, f 101, f 102, f 103, f 104, f 105, f 106, f 107, f 108, f 109, f 110, f 111, f 112, f 113, f 114, f 115, f 116, f 117, f 118, f 119, f 120, f 121, f 122, f 123, f 124, f 125, f 126, f 127, f 128, f 129, f 130, f 131, f 132, f 133, f 134, f 135, f 136, f 137, f 138, f 139, f 140, f 141, f 142, f 143, f 144, f 145, f 146, f 147, f 148, f 149, f 150, f 151, f 152, f 153, f 154, f 155, f 156, f 157, f 158, f 159, f 160, f 161, f 162, f 163, f 164, f 165, f 166, f 167, f 168, f 169, f 170, f 171, f 172, f 173, f 174, f 175, f 176, f 177, f 178, f 179, f 180, f 181, f 182, f 183, f 184, f 185, f 186, f 187, f 188, f 189, f 190, f 191, f 192, f 193, f 194, f 195, f 196, f 197, f 198, f 199, f 200, f 201, f 202, f 203, f 204, f 205, f 206, f 207, f 208] := by kernel_rfl
theorem file_new (M : Nat → Int) (b7 b16 b17 : Bool) (G k cap : Nat) (W : World) (cs : Array Value) (hcs : cs = fileCells M b7 b16 b17 (.slice (some ⟨G, 0, none⟩) k cap) (.int .i64 1)) (hl : Lims M) (hk : 0 < k ∧ k ≤ 40 ∧ k ≤ cap ∧ cap ≤ 9223372036854775807) (ha : AdvAt G k W) : FileR M b7 b16 b17 W.heap.size G k cap (W.alloc (.cells cs 35)) :=
  ⟨by rw [World.size_alloc]; omega, fun j v hv => by rw [cell_in (heap_alloc_new W _), hcs]; exact hv, hl, ha.later ((Below.refl _ _).alloc (Nat.le_refl _) _), hk⟩
theorem writer_new (w : World) (A : Option Addr) (n c : Nat) : Writer w.heap.size A n c 0 (w.alloc (.cells #[.slice A n c, .int .i64 0, .bool false] 60)) := by
  have h := heap_alloc_new w (.cells #[.slice A n c, .int .i64 0, .bool false] 60)
  exact ⟨by rw [cell_in h]; rfl, by rw [cell_in h]; rfl, frozen_in h, by rw [cell_in h]; rfl⟩

/-- Where the bytes stand once the literal is made. -/
structure Stage (R F : Nat) (M : Nat → Int) (b7 b16 b17 : Bool) (G k cap : Nat) (A3 : Option Addr) (n3 c3 m : Nat) (w0 W : World) : Prop where
  below : Below w0.heap.size w0 W
  base : R = w0.heap.size
  file : FileR M b7 b16 b17 F G k cap W
  writer : ∃ q, q ≤ 1 ∧ Writer R A3 n3 c3 q W
  map : ∃ len, MapS R m insL len W

/-- .. and while the map is filled further. -/
structure Stage2 (R F : Nat) (M : Nat → Int) (b7 b16 b17 : Bool) (G k cap : Nat) (A3 : Option Addr) (n3 c3 m : Nat) (S : List Nat) (w0 w4 X : World) : Prop where
  one : Stage R F M b7 b16 b17 G k cap A3 n3 c3 m w0 w4
  old : F < R ∧ R < w4.heap.size
  below : Below (R + 1) w4 X
  map : ∃ len, MapS R m S len X
section
variable {R F G k cap n3 c3 m : Nat} {M : Nat → Int} {b7 b16 b17 : Bool} {A3 : Option Addr} {S : List Nat} {w0 w4 X X' : World}
theorem Stage2.cell (h : Stage2 R F M b7 b16 b17 G k cap A3 n3 c3 m S w0 w4 X) (j : Nat) (v : Value) (hv : (fileCells M b7 b16 b17 (.slice (some ⟨G, 0, none⟩) k cap) (.int .i64 1))[j]? = some v) : X.cell? ⟨F, j, none⟩ = some v := by
  rw [World.cell?_of_block (h.below.block F (by have := h.old; omega))]
  exact h.one.file.cells j v hv
theorem Stage2.size (h : Stage2 R F M b7 b16 b17 G k cap A3 n3 c3 m S w0 w4 X) : R < X.heap.size := Nat.lt_of_lt_of_le h.old.2 h.below.size
theorem Stage2.met (h : Stage2 R F M b7 b16 b17 G k cap A3 n3 c3 m S w0 w4 X) : MetR F X := by
  have hb := h.below.block F (by have := h.old; omega)
  have h1 := h.one.file.met
  refine ⟨by have := h.size; have := h.old; omega, fun j a b c d => ?_, fun j a => ?_⟩
  · obtain ⟨x, e1, e2⟩ := h1.num j a b c d
    exact ⟨x, e1, (World.cell?_of_block hb).trans e2⟩
  · obtain ⟨x, e1⟩ := h1.flag j a
    exact ⟨x, (World.cell?_of_block hb).trans e1⟩
theorem Stage2.big (h : Stage2 R F M b7 b16 b17 G k cap A3 n3 c3 m S w0 w4 X) : X.cell? ⟨R, 2, none⟩ = some (.bool false) := by
  obtain ⟨q, _, hq⟩ := h.one.writer
  rw [World.cell?_of_block (h.below.block R (by omega))]
  exact hq.big
theorem Stage2.later (h : Stage2 R F M b7 b16 b17 G k cap A3 n3 c3 m S w0 w4 X) (b : Below X.heap.size X X') : Stage2 R F M b7 b16 b17 G k cap A3 n3 c3 m S w0 w4 X' := by
  obtain ⟨len, h1⟩ := h.map
  exact ⟨h.one, h.old, h.below.trans (b.mono h.size), len, h1.later b⟩
theorem Stage2.all (h : Stage2 R F M b7 b16 b17 G k cap A3 n3 c3 m S w0 w4 X) {W : World} (hb : Below W.heap.size W w0) : Below W.heap.size W X :=
  (hb.trans (h.one.below.mono hb.size)).trans (h.below.mono (by have := hb.size; have := h.one.base; omega))
end

set_option maxRecDepth 1000000 in
set_option maxHeartbeats 80000000 in
theorem bytes_any (M : Nat → Int) (b7 b16 b17 : Bool) (G k cap n3 c3 : Nat) (A3 : Option Addr) (W : World) (hl : Lims M) (hk : 0 < k ∧ k ≤ 40 ∧ k ≤ cap ∧ cap ≤ 9223372036854775807) (ha : AdvAt G k W) (hn3 : n3 ≤ 2147483647) (hin : InU8 W A3 n3) :
    Calls Tryz.prog 5 #[.agg (fileCells M b7 b16 b17 (.slice (some ⟨G, 0, none⟩) k cap) (.int .i64 1)), .slice A3 n3 c3] W (Bytes5 W) := by
  obtain ⟨cs, hcs⟩ : ∃ cs : Array Value, cs = fileCells M b7 b16 b17 (.slice (some ⟨G, 0, none⟩) k cap) (.int .i64 1) := ⟨_, rfl⟩
  rw [← hcs]
  have HF1 := Lib.hid (file_new M b7 b16 b17 G k cap W cs hcs hl hk ha)
  have HB1 := Lib.hid (show Below W.heap.size W (W.alloc (.cells cs 35)) from (Below.refl _ _).alloc (Nat.le_refl _) _)
  have HIN := Lib.hid hin
  have hFlt : W.heap.size < (W.alloc (.cells cs 35)).heap.size := by rw [World.size_alloc]; omega
  clear hcs hl ha hin
  go_enter Tryz.func5, Tryz.ntmps5
  go_upto_region 1 with fail
  obtain ⟨F, hF⟩ : ∃ F, F = W.heap.size := ⟨_, rfl⟩
  obtain ⟨w1, hw1⟩ : ∃ w1, w1 = W.alloc (.cells cs 35) := ⟨_, rfl⟩
  rw [← hw1, ← hF] at HF1
  rw [← hw1] at HB1 hFlt
  rw [← hF] at hFlt
  rw [← hw1, ← hF]
  have HFW := Lib.hid hF
  clear hw1 hF
  go_wp2_with fail
  with_reducible refine (fits_any M b7 b16 b17 F G k cap w1 HF1.out).mono ?_
  rintro e w2 ⟨rfl, hb2⟩
  have hf2 := HF1.out.later hb2
  have c7 : w2.cell? ⟨F, 7, none⟩ = some (.bool b7) := hf2.cells 7 _ rfl
  have c16 : w2.cell? ⟨F, 16, none⟩ = some (.bool b16) := hf2.cells 16 _ rfl
  have c17 : w2.cell? ⟨F, 17, none⟩ = some (.bool b17) := hf2.cells 17 _ rfl
  have c28 : w2.cell? ⟨F, 28, none⟩ = some (.slice (some ⟨G, 0, none⟩) k cap) := hf2.cells 28 _ rfl
  have hF2 : F < w2.heap.size := Nat.lt_of_lt_of_le hFlt hb2.size
  have HF2 := Lib.hid hf2
  have HB2 := Lib.hid hb2
  clear hf2 hb2 hFlt
  go_upto_if 30 with fail
  obtain ⟨w3, hw3⟩ : ∃ w3, w3 = w2.alloc (.cells #[.slice A3 n3 c3, .int .i64 0, .bool false] 60) := ⟨_, rfl⟩
  obtain ⟨R, hR⟩ : ∃ R, R = w2.heap.size := ⟨_, rfl⟩
  have hW := writer_new w2 A3 n3 c3
  rw [← hw3, ← hR] at hW ⊢
  have hb3 : Below w2.heap.size w2 w3 := by rw [hw3]; exact (Below.refl _ _).alloc (Nat.le_refl _) _
  have hR3 : R < w3.heap.size := by rw [hw3, hR, World.size_alloc]; omega
  have d16 := below_cell hb3 c16
  have H3 := Lib.hid (And.intro hW (And.intro hb3 (And.intro hR3 hR)))
  clear hW hb3 hR3 hR hw3 c7 c28 c17 c16
  go_cut [9] (fun v X => (∃ s : Int, v = vi s ∧ (s = 0 ∨ s = 1)) ∧ X = w3)
  case first =>
    cases b17
    · go_wp2_with fail
      go_meet
      case rel => exact ⟨⟨0, rfl, Or.inl rfl⟩, rfl⟩
    · go_wp2_with fail
      go_meet
      case rel => exact ⟨⟨1, rfl, Or.inr rfl⟩, rfl⟩
  case rest =>
  obtain ⟨⟨s, rfl, hs⟩, rfl⟩ := hcut
  go_upto_if 36 with fail
  go_cut [9] (fun v X => (∃ s : Int, v = vi s ∧ 0 ≤ s ∧ s ≤ 3) ∧ X = wc)
  case first =>
    cases b16
    · go_wp2_with fail
      go_meet
      case rel => exact ⟨⟨s, rfl, by omega, by omega⟩, rfl⟩
    · rcases hs with rfl | rfl
      · go_wp2_with fail
        go_meet
        case rel => exact ⟨⟨2, rfl, by omega, by omega⟩, rfl⟩
      · go_wp2_with fail
        go_meet
        case rel => exact ⟨⟨3, rfl, by omega, by omega⟩, rfl⟩
  case rest =>
  obtain ⟨⟨s2, rfl, hs0, hs3⟩, rfl⟩ := hcut
  clear hs d16
  go_upto_region 11 with fail
  have hways := old_u8 (old_u8 HIN.out HB1.out) HB2.out
  refine reg_eq (by kernel_rfl : _ = ops11) (lit_region (c := ⟨R, F, G, k, cap, n3, c3, A3, M, b7, b16, b17, s2, w2⟩) ⟨HF2.out, H3.out.2.2.2.symm, hn3, hways, ⟨hs0, hs3⟩⟩ ⟨by kernel_rfl, rfl, rfl, rfl, rfl, rfl, rfl, rfl, H3.out.2.1⟩ H3.out.1 H3.out.2.2.1 ?_)
  intro a' w4 m len Fm hB e10 hwr hlens hsh hfm
  have hfr := frame_known (pre := [2, 6, 7, 10]) (pv := pv11 F R m) hB.size hB.defers (fun t ht => by
    simp only [List.mem_cons, List.not_mem_nil, or_false] at ht
    rcases ht with rfl | rfl | rfl | rfl
    · exact hB.t2
    · exact hB.t6
    · exact hB.t7
    · exact e10)
  obtain ⟨f, hf⟩ : ∃ f : Nat → Value, f = fun t => a'.eval (.tmp t) := ⟨_, rfl⟩
  have hfr2 : a' = ⟨((List.range 209).map fun t => if [2, 6, 7, 10].contains t then pv11 F R m t else f t).toArray, []⟩ := by rw [hf]; exact hfr
  rw [fr11] at hfr2
  have hbelow : Below w2.heap.size w2 w4 := hB.below
  have hms : MapS R m insL len w4 := ⟨⟨Fm, hsh, hfm⟩, hlens⟩
  have HST := Lib.hid (show Stage R F M b7 b16 b17 G k cap A3 n3 c3 m w2 w4 from ⟨hbelow, H3.out.2.2.2, HF2.out.later hbelow, hwr, ⟨len, hms⟩⟩)
  have HB := Lib.hid (HB1.out.trans (HB2.out.mono HB1.out.size))
  clear hfr hf e10 hB hbelow hms hsh hfm hlens hwr hways H3 HF1 HB1 HIN HF2 HB2 HFW hs0 hs3
  subst hfr2
  have c27 : w4.cell? ⟨F, 27, none⟩ = some (.slice none 0 0) := HST.out.file.cells 27 _ rfl
  have HP := Lib.hid (post_any R F w4 HST.out.file.met)
  go_wp2_with fail
  with_reducible refine HP.out.mono ?_
  rintro e w5 ⟨⟨v5, rfl, hv5⟩, hb5⟩
  obtain ⟨len4, hm4⟩ := HST.out.map
  have hR4 : R < w4.heap.size := by obtain ⟨q, _, hq⟩ := HST.out.writer; exact World.block_lt_of_cell? w4 _ hq.ways
  obtain ⟨D5, k5, ho5, hk5, hset5⟩ := (hm4.later hb5).set (i := 7) (by decide) (by decide) (by decide) (by decide) hv5 hR4
  have HS5 := Lib.hid (And.intro hb5 hset5)
  have HR4 := Lib.hid hR4
  clear hv5 hb5 hset5 hm4 HP c27 hR4
  go_wp2_with (first | (at_mapUpdate; refine wpList_mapUpdate_own _ rfl (.tmp 117) (.const (.string ⟨#[112, 111, 115, 116]⟩)) (.tmp 120) 33 rfl 9 24 (Maps.string_keyed Tryz.underlying9) Tryz.underlying33 hv m k5 D5 rfl ho5 hk5 (.string (tag 7)) v5 (kStr 7) rfl rfl (kstr_of 7 (by decide)) (.held v5) [] rfl ?_) | go_in)
  intro w6 ho6 hg6
  obtain ⟨hm6, _, hb6⟩ := HS5.out.2 w6 ho6 hg6
  have hb46 : Below (R + 1) w4 w6 := (HS5.out.1.mono HR4.out).trans hb6
  have HS6 := Lib.hid (show Stage2 R F M b7 b16 b17 G k cap A3 n3 c3 m insL w2 w4 w6 from ⟨HST.out, ⟨by rw [HST.out.base]; exact hF2, HR4.out⟩, hb46, _, hm6 (by decide)⟩)
  clear ho6 hg6 hm6 hb6 hb46 HS5 ho5 hk5 HST HR4
  have c32 : w6.cell? ⟨F, 32, none⟩ = some (.bool false) := HS6.out.cell 32 _ rfl
  have HP := Lib.hid (os2_any F w6 HS6.out.met)
  go_wp2_with fail
  with_reducible refine HP.out.mono ?_
  rintro e w7 ⟨⟨v7, rfl, hv7⟩, hb7⟩
  obtain ⟨len6, hm6⟩ := HS6.out.map
  obtain ⟨D7, k7, ho7, hk7, hset7⟩ := (hm6.later hb7).set (i := 0) (by decide) (by decide) (by decide) (by decide) hv7 HS6.out.size
  have HS7 := Lib.hid (And.intro hb7 hset7)
  clear hv7 hb7 hset7 hm6 HP c32
  go_wp2_with (first | (at_mapUpdate; refine wpList_mapUpdate_own _ rfl (.tmp 124) (.const (.string ⟨#[79, 83, 47, 50]⟩)) (.tmp 126) 33 rfl 9 24 (Maps.string_keyed Tryz.underlying9) Tryz.underlying33 hv m k7 D7 rfl ho7 hk7 (.string (tag 0)) v7 (kStr 0) rfl rfl (kstr_of 0 (by decide)) (.held v7) [] rfl ?_) | go_in)
  intro w8 ho8 hg8
  obtain ⟨_, hm8, hb8⟩ := HS7.out.2 w8 ho8 hg8
  have HS8 := Lib.hid (show Stage2 R F M b7 b16 b17 G k cap A3 n3 c3 m (0 :: insL) w2 w4 w8 from ⟨HS6.out.one, HS6.out.old, (HS6.out.below.trans (HS7.out.1.mono HS6.out.size)).trans hb8, _, hm8 (by decide)⟩)
  clear ho8 hg8 hm8 hb8 HS7 ho7 hk7 HS6
  have c33 : w8.cell? ⟨F, 33, none⟩ = some (.slice none 0 0) := HS8.out.cell 33 _ rfl
  have c30 : w8.cell? ⟨F, 30, none⟩ = some (.slice none 0 0) := HS8.out.cell 30 _ rfl
  have c31 : w8.cell? ⟨F, 31, none⟩ = some (.slice none 0 0) := HS8.out.cell 31 _ rfl
  have c35 : w8.cell? ⟨F, 35, none⟩ = some (.map none) := HS8.out.cell 35 _ rfl
  have hrn : (Instr.range 33 (.map none)).run Tryz.prog w8 = .ok (.pointer (some ⟨w8.heap.size, 0, none⟩)) (w8.alloc (.mapIter none 0 #[] 0)) := run_range_nilMap w8 33 9 24 Tryz.underlying33
  have hnx : ∀ ty, (Instr.next (.pointer (some ⟨w8.heap.size, 0, none⟩)) false ty).run Tryz.prog (w8.alloc (.mapIter none 0 #[] 0)) = .ok (.tuple #[.bool false]) (w8.alloc (.mapIter none 0 #[] 0)) := fun ty => run_next_nilMap w8 ty 0 0 #[]
  have HS9 := Lib.hid (HS8.out.later ((Below.refl _ w8).alloc (Nat.le_refl _) (.mapIter none 0 #[] 0)))
  go_wp2_with fail
  refine wp_loop_rounds 1 ?_
  rw [rounds_succ]
  go_upto_region 27 with fail
  obtain ⟨w9, hw9⟩ : ∃ w9, w9 = w8.alloc (.mapIter none 0 #[] 0) := ⟨_, rfl⟩
  rw [← hw9] at HS9 ⊢
  clear hrn hnx c33 c30 c31 c35 HS8 hw9
  obtain ⟨len, hms⟩ := HS9.out.map
  have hlens := hms.lens
  obtain ⟨F9, ⟨D, val, n, q1, q2, q3, q4, q5, q6⟩, hF9⟩ := hms.has
  have HV := Lib.hid (And.intro q3 (And.intro q4 (And.intro q5 (And.intro hF9 hlens))))
  have hmlt : m < w9.heap.size := (hF9 m q6).2
  clear q2 q3 q4 q5 q6 hF9 hlens hms
  go_wp2_with (first | (at_range; refine wpList_range_own _ rfl (.tmp 175) 33 rfl 9 24 (Maps.string_keyed Tryz.underlying9) Tryz.underlying33 hv m n D rfl q1 ?_; intro w10 hrg0 hg0 hs0) | go_in)
  go_frame
  obtain ⟨r, hr⟩ : ∃ r, r = w9.heap.size := ⟨_, rfl⟩
  rw [← hr] at hrg0 ⊢
  have hg10 : Gat m r n D [] (Maps.size D) (.slice none 0 0) w9 w10 := ⟨Coll.start hrg0 HV.out.1 (fun i => by simp [insL]; omega), World.ownsRow_nil _ _ _ _, Kept.below (Below.refl _ _) (kept_of_grown hg0) (Nat.le_refl _) (fun q hq => by simp), hr, hmlt, by omega⟩
  have HG10 := Lib.hid hg10
  have HQ1 := Lib.hid (And.intro q1 hmlt)
  clear hg10 hrg0 hg0 hs0 hr hmlt q1
  go_wp2_with fail
  go_loopg [13] (Maps.size D) (fun gk tv X => ∃ P cnt, gk = cnt ∧ Gat m r n D P cnt tv w9 X)
  case atStart => exact ⟨[], _, rfl, HG10.out⟩
  case round =>
    obtain ⟨P, cnt, hgk, hg⟩ := hrel
    have HG := Lib.hid hg
    have HK := Lib.hid hgk
    have hcoll := hg.coll
    clear hgk hg HG10
    go_wp2_with (first | (at_next; refine wpList_next_coll rfl _ rfl 9 (Maps.string_keyed Tryz.underlying9) Value.string kStr strV (fun key kl hkey => key_is_str hkey) (fun i x hi hkx => key_is_tag i x hi hkx) kstr_same m r n cnt D P rfl hcoll ?_ ?_) | go_in)
    · intro hP
      have hPl : P.length = 8 := by have := hP.length_eq; simpa using this
      have hown := HG.out.own
      rw [hPl] at hown
      obtain ⟨gt, capt, curt, rfl, hgt, _⟩ := own_form hown (by decide)
      have hin8 : ∀ x ∈ P, x < 8 := HG.out.coll.in8
      have HSORT := Lib.hid (sort_any (w9.heap.size + 1) gt capt P wr wr hPl hin8 ⟨hPl, hown, Below.refl _ _, by have := HG.out.low; omega⟩)
      have HP8 := Lib.hid hP
      clear hPl hown hgt hin8 hcoll HK hP
      go_wp2_with fail
      with_reducible refine HSORT.out.mono ?_
      rintro e w13 ⟨rfl, S', hS1, hS2, hnow⟩
      have hS8 := asc_eight S' (hS1.trans HP8.out) hS2
      subst hS8
      have hb13 : Below w9.heap.size w9 w13 := HG.out.below.trans (hnow.below.mono (by omega))
      have htags : ∀ j, j < 8 → w13.cell? ⟨gt, j, none⟩ = some (.string (tag j)) := fun j hj => hnow.at_ (l := List.range 8) (x := j) (by rw [List.getElem?_range hj])
      have H13 := Lib.hid (And.intro hb13 htags)
      clear hb13 htags hnow hS1 hS2 HSORT HP8 HG
      go_wp2_with fail
      go_loopg [15, 189] (8) (fun gk lv iv X => ∃ i : Nat, i ≤ 8 ∧ gk = 8 - i ∧ iv = .int .i64 i ∧ X.ownsRow w13.heap.size 24 1 lv i ((List.range i).map val) ∧ Below w13.heap.size w13 X)
      case atStart => exact ⟨0, by omega, rfl, rfl, World.ownsRow_nil _ _ _ _, Below.refl _ _⟩
      case round =>
        obtain ⟨i, hi, hgk, rfl, hown, hbx⟩ := hrel
        have HK := Lib.hid hgk
        have HX := Lib.hid (And.intro hown hbx)
        clear hgk hown hbx
        by_cases hlt : i < 8
        · have ilt : (i : Int) < 8 := by omega
          have hmem : i ∈ 0 :: insL := by simp [insL]; omega
          obtain ⟨_, Gi, bi, ri1, ri2, ri3, ri4⟩ := HV.out.2.1 i hmem
          obtain ⟨gi, ci, curi, hvi, _⟩ := own_form ri3 (HV.out.2.2.2.2 i hmem).1
          have hat : ∀ z, D.atKey (kStr i) z = .held (.slice (some ⟨gi, 0, none⟩) (len i) ci) := fun z => by rw [← hvi]; exact HV.out.1.get i hmem z
          have hm9 : m < w13.heap.size := Nat.lt_of_lt_of_le HQ1.out.2 H13.out.1.size
          have hmap : wr.ownsMap Tryz.prog 9 hv m n D := own_map_block HQ1.out.1 ((HX.out.2.block m hm9).trans (H13.out.1.block m HQ1.out.2))
          have hkey : keyOf Tryz.prog 9 (.string (tag i)) = some (kStr i) := kstr_of i hlt
          have ct := below_cell HX.out.2 (H13.out.2 i hlt)
          obtain ⟨str, hstr⟩ : ∃ str, str = tag i := ⟨_, rfl⟩
          rw [← hstr] at hkey ct
          obtain ⟨lni, hlni⟩ : ∃ x, x = len i := ⟨_, rfl⟩
          rw [← hlni] at hat hvi
          have hz : (zeroValue 24).run Tryz.prog wr = .ok (.slice none 0 0) wr := by kernel_rfl
          obtain ⟨i0, j0, jz, ja, jb⟩ := info_parts info24
          have hone : ∀ j u, [Value.slice (some ⟨gi, 0, none⟩) lni ci][j]? = some u → (wr.alloc (.cells #[.slice (some ⟨gi, 0, none⟩) lni ci] 24)).cell? ((⟨wr.heap.size, 0, none⟩ : Addr).add j) = some u := fun j u hj => cells_new wr [.slice (some ⟨gi, 0, none⟩) lni ci] 24 j u hj
          have HH := Lib.hid (And.intro hat (And.intro hkey (And.intro hz (And.intro hone hmap))))
          have HVI := Lib.hid hvi
          have hbs := HX.out.2.size
          clear hmem ri1 ri2 ri3 ri4 hvi hat hkey hz hone hmap hm9 hstr hlni
          go_wp2_with (first
            | (at_lookup; refine wpList_lookup_hv rfl (.tmp 194) (.tmp 195) 33 rfl 9 24 (Maps.string_keyed Tryz.underlying9) Tryz.underlying33 (.slice none 0 0) HH.out.2.2.1 m n D rfl HH.out.2.2.2.2 (.string str) (kStr i) rfl HH.out.2.1 (.slice (some ⟨gi, 0, none⟩) lni ci) HH.out.1 ?_)
            | (at_builtin; go_must (refine wpList_append_own_at _ rfl (.tmp 193) (.tmp 197) 77 rfl w13.heap.size 24 i0 _ 1 24 Tryz.underlying77 j0 jz ja jb rfl (by decide) _ i ((List.range i).map val) rfl (by exact (HX.out.1.alloc _)) ⟨wr.heap.size, 0, none⟩ 1 1 [.slice (some ⟨gi, 0, none⟩) lni ci] rfl rfl HH.out.2.2.2.1 (by simp [Value.oneCell']) (by unfold maxLen; omega) (by omega) (by rw [World.size_alloc]; omega) ?_)))
          intro v3 w15 hown3 hg3 _ _
          have hb15 : Below w13.heap.size w13 w15 := by
            have b1 := HX.out.2.alloc hbs (.cells #[.slice (some ⟨gi, 0, none⟩) lni ci] 24)
            exact Kept.below b1 (kept_of_grown hg3) b1.size (fun q hq e => by have := (HX.out.1.lt q e.symm).1; omega)
          have hown15 : w15.ownsRow w13.heap.size 24 1 v3 (i + 1) ((List.range (i + 1)).map val) := by
            rw [List.range_succ, List.map_append, List.map_cons, List.map_nil, HVI.out]
            exact hown3
          have H15 := Lib.hid (And.intro hown15 hb15)
          clear hown15 hb15 hown3 hg3 HH HVI hbs ct
          go_wp2_with fail
          go_roundg (8 - (i + 1))
          case measure => rw [HK.out]; omega
          case rel => exact ⟨i + 1, by omega, rfl, by simp, H15.out.1, H15.out.2⟩
        · have i8 : i = 8 := by omega
          subst i8
          have ilt : ¬ ((8 : Nat) : Int) < 8 := by decide
          have hown := HX.out.1
          obtain ⟨g2, cap2, cur2, rfl, hg2, _⟩ := own_form hown (by decide)
          have hb9 : Below w9.heap.size w9 wr := H13.out.1.trans (HX.out.2.mono H13.out.1.size)
          have hgiven : Given gt g2 len wr.drew := by
            refine ⟨fun j hj => (show wr.cell? ⟨gt, j, none⟩ = _ from below_cell HX.out.2 (H13.out.2 j hj)), fun j hj => ?_, fun j hj => HV.out.2.2.2.2 j (by simp [insL]; omega)⟩
            have hmem : j ∈ 0 :: insL := by simp [insL]; omega
            obtain ⟨_, Gi, bi, ri1, ri2, ri3, ri4⟩ := HV.out.2.1 j hmem
            obtain ⟨gi, ci, curi, hvi, _, _, hc1, hc2, _⟩ := own_form ri3 (HV.out.2.2.2.2 j hmem).1
            have hgi : gi < w9.heap.size := (HV.out.2.2.2.1 gi (HV.out.2.2.1 j hmem gi (by rw [hvi]; rfl))).2
            have hcell : wr.cell? ⟨g2, j, none⟩ = some (val j) := by
              rw [hown.cellAt j (by omega), List.getElem?_map, List.getElem?_range (by omega)]
              rfl
            rw [hvi] at ri3 hcell
            refine ⟨gi, ci, bi, hcell, ri1, ri2, fun t b hb => ?_, Nat.lt_of_lt_of_le hgi hb9.size, hc1, by unfold maxLen at hc2; omega⟩
            exact (show wr.cell? ⟨gi, t, none⟩ = _ from below_cell hb9 (own_reads ri3 t _ (by simp [byteCells, hb])))
          have HPUT := Lib.hid (put_any (.pointer (some ⟨R, 0, none⟩)) gt g2 capt cap2 len wr.drew hgiven)
          have cbig : wr.cell? ⟨R, 2, none⟩ = some (.bool false) := below_cell hb9 HS9.out.big
          have HALL := Lib.hid ((HS9.out.all HB.out).trans (hb9.mono (HS9.out.all HB.out).size))
          have HLEN := Lib.hid (fun j (hj : j < 8) => (HV.out.2.2.2.2 j (by simp [insL]; omega)).1)
          clear hown hb9 hgiven hg2 HX HV HQ1 HS9 H13
          go_upto_region 39 with fail
          go_region_with (go_at_call 25; (with_reducible refine HPUT.out.mono ?_); rintro e w16 ⟨B, N, cpB, bs, rfl, p1, p2, p3, p4⟩; have cbig2 := below_cell p3 cbig)
          all_goals
            have HP := Lib.hid (show Bytes5 W (.returned (.tuple #[.slice (some ⟨B, 0, none⟩) N cpB, .bool true])) w16 from ⟨B, N, cpB, bs, len, rfl, p1, p2, HLEN.out, HALL.out.trans ((show Below wr.heap.size wr w16 from ((Below.refl _ wr).drew.trans p3)).mono HALL.out.size)⟩)
            clear p1 p2 p3 cbig2 cbig
            go_wp2_with fail
            go_ret2
            exact HP.out
    · intro i vv w11 cnt' hi hiP hcoll2 hlt hg11 hs11 hen
      have h8 := hcoll2.len
      rw [List.length_append, List.length_singleton] at h8
      have k11 := kept_of_grown hg11
      have hown := HG.out.own
      have hlow := HG.out.low
      have own11 := k11.own hown (fun q hq e => by injection e with e; have := (hown.lt q hq).1; omega)
      obtain ⟨str, hstr⟩ : ∃ str, str = tag i := ⟨_, rfl⟩
      have hsv : strV i = .string str := by rw [hstr]; rfl
      rw [hsv] at hen ⊢
      have hbelow := HG.out.below.size
      have H11 := Lib.hid (And.intro hcoll2 (And.intro hg11 (And.intro hs11 (And.intro own11 (And.intro hlt hsv)))))
      obtain ⟨i0, j0, jz, ja, jb⟩ := info_parts info9
      have hone : ∀ j u, [Value.string str][j]? = some u → (w11.alloc (.cells #[.string str] 9)).cell? ((⟨w11.heap.size, 0, none⟩ : Addr).add j) = some u := fun j u hj => cells_new w11 [.string str] 9 j u hj
      have HONE := Lib.hid hone
      clear hcoll2 hg11 k11 hown hlow own11 hlt hstr hsv hcoll hone hs11
      go_wp2_with (at_builtin; go_must (refine wpList_append_own_at _ rfl (.tmp 181) (.tmp 183) 28 rfl (w9.heap.size + 1) 9 i0 _ 1 16 Tryz.underlying28 j0 jz ja jb rfl (by decide) _ P.length (P.map strV) rfl (by exact (H11.out.2.2.2.1.alloc _)) ⟨w11.heap.size, 0, none⟩ 1 1 [.string str] rfl rfl HONE.out (by simp [Value.oneCell']) (by unfold maxLen; omega) (by omega) (by have := HG.out.low; have h11s := H11.out.2.2.1; rw [World.size_alloc]; omega) ?_))
      intro v3 w12 hown3 hg3 _ _
      have h12 : Gat m r n D (P ++ [i]) cnt' v3 w9 w12 := by
        obtain ⟨a1, a2, a3, a4, a5, a6⟩ := H11.out
        exact HG.out.next a1 a2 a3 rfl (by rw [a6]; exact hown3) hg3
      have H12 := Lib.hid h12
      have HLT := Lib.hid H11.out.2.2.2.2.1
      clear h12 hown3 hg3 H11 HONE hen
      go_wp2_with fail
      go_roundg cnt'
      case measure => rw [HK.out]; exact HLT.out
      case rel => exact ⟨P ++ [i], cnt', rfl, H12.out⟩
end Go.Proofs.YtgggpllmgnpngaaGreatDoor.Tb
