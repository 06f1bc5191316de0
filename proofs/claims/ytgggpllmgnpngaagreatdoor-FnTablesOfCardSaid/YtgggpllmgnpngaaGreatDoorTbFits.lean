/- Whether a file can be written, walked: it can. -/
import Derived.Test.YtgggpllmgnpngaaGreatDoorTbFitsAll
import Derived.Test.YtgggpllmgnpngaaGreatDoorTbFitsSeq
namespace Go.Proofs.YtgggpllmgnpngaaGreatDoor.Tb
open Go Go.RowKit

def Fits (w : World) (e : Ending) (w' : World) : Prop := e = .returned (.bool true) ∧ Below w.heap.size w w'
theorem fr3 (f : Nat → Value) (F k : Nat) : ((List.range Pp3.N).map fun t => if Pp3.pre.contains t then pvp3 F k t else f t) = [pt F 0, f 1, .bool false, vi (k : Int), pt F 0, f 5, f 6, f 7, f 8, f 9, f 10, f 11, f 12, f 13, f 14, f 15, f 16, f 17, f 18, f 19, f 20, f 21, f 22, f 23, f 24, f 25, f 26, f 27, f 28, f 29, f 30, f 31, f 32, f 33, f 34, f 35, f 36, f 37, f 38, f 39, f 40, f 41, f 42, f 43, f 44, f 45, f 46, f 47, f 48, f 49, f 50, f 51, f 52, f 53, f 54, f 55, f 56, f 57, f 58, f 59, f 60, f 61, f 62, f 63, f 64, f 65, f 66, f 67, f 68, f 69, f 70, f 71, f 72, f 73, f 74, f 75, f 76, f 77, f 78, f 79, f 80, f 81, f 82, f 83, f 84, f 85, f 86, f 87, f 88, f 89, f 90, f 91, f 92, f 93, f 94, f 95, f 96, f 97, f 98, f 99, f 100, f 101, f 102, f 103, f 104, f 105, f 106, f 107, f 108, f 109, f 110, f 111, f 112, f 113, f 114, f 115, f 116, f 117, f 118, f 119, f 120, f 121, f 122, f 123, f 124, f 125, f 126, f 127, f 128, f 129, f 130, f 131, f 132, f 133, f 134, f 135, f 136, f 137, f 138, f 139, f 140, f 141, f 142, f 143, f 144, f 145, f 146, f 147, f 148, f 149, f 150, f 151, f 152, f 153, f 154, f 155, f 156, f 157, f 158, f 159, f 160, f 161, f 162, f 163, f 164, f 165, f 166, f 167, f 168, f 169, f 170, f 171, f 172, f 173, f 174, f 175, f 176, f 177, f 178, f 179, f 180, f 181, f 182, f 183, f 184, f 185, f 186, f 187, f 188, f 189, f 190, f 191, f 192, f 193, f 194, f 195, f 196, f 197, f 198, f 199, f 200, f 201, f 202, f 203, f 204, f 205, f 206, f 207, f 208, f 209, f 210, f 211, f 212, f 213, f 214, f 215, f 216, f 217, f 218, f 219, f 220, f 221, f 222, f 223, f 224, f 225, f 226, f 227, f 228, f 229, f 230, f 231, f 232, f 233, f 234, f 235, f 236, f 237, f 238, f 239, f 240, f 241, f 242, f 243, f 244, f 245, f 246, f 247, f 248] := by kernel_rfl
def pv5 (F n g cp : Nat) : Nat → Value
  | 0 => pt F 0
  | 2 => .bool false
  | 4 => pt F 0
  | 192 => .slice (some ⟨g, 0, none⟩) n cp
  | 193 => vi (n : Int)
  | 194 => vi 0
  | _ => undef
theorem fr5 (f : Nat → Value) (F n g cp : Nat) : ((List.range 249).map fun t => if [0, 2, 4, 192, 193, 194].contains t then pv5 F n g cp t else f t) = [pt F 0, f 1, .bool false, f 3, pt F 0, f 5, f 6, f 7, f 8, f 9, f 10, f 11, f 12, f 13, f 14, f 15, f 16, f 17, f 18, f 19, f 20, f 21, f 22, f 23, f 24, f 25, f 26, f 27, f 28, f 29, f 30, f 31, f 32, f 33, f 34, f 35, f 36, f 37, f 38, f 39, f 40, f 41, f 42, f 43, f 44, f 45, f 46, f 47, f 48, f 49, f 50, f 51, f 52, f 53, f 54, f 55, f 56, f 57, f 58, f 59, f 60, f 61, f 62, f 63, f 64, f 65, f 66, f 67, f 68, f 69, f 70, f 71, f 72, f 73, f 74, f 75, f 76, f 77, f 78, f 79, f 80, f 81, f 82, f 83, f 84, f 85, f 86, f 87, f 88, f 89, f 90, f 91, f 92, f 93, f 94, f 95, f 96, f 97, f 98, f 99, f 100, f 101, f 102, f 103, f 104, f 105, f 106, f 107, f 108, f 109, f 110, f 111, f 112, f 113, f 114, f 115, f 116, f 117, f 118, f 119, f 120, f 121, f 122, f 123, f 124, f 125, f 126, f 127, f 128, f 129, f 130, f 131, f 132, f 133, f 134, f 135, f 136, f 137, f 138, f 139, f 140, f 141, f 142, f 143, f 144, f 145, f 146, f 147, f 148, f 149, f 150, f 151, f 152, f 153, f 154, f 155, f 156, f 157, f 158, f 159, f 160, f 161, f 162, f 163, f 164, f 165, f 166, f 167, f 168, f 169, f 170, f 171, f 172, f 173, f 174, f 175, f 176, f 177, f 178, f 179, f 180, f 181, f 182, f 183, f 184, f 185, f 186, f 187, f 188, f 189, f 190, f 191, .slice (some ⟨g, 0, none⟩) n cp, vi (n : Int), vi 0, f 195, f 196, f 197, f 198, f 199, f 200, f 201, f 202, f 203, f 204, f 205, f 206, f 207, f 208, f 209, f 210, f 211, f 212, f 213, f 214, f 215, f 216, f 217, f 218, f 219, f 220, f 221, f 222, f 223, f 224, f 225, f 226, f 227, f 228, f 229, f 230, f 231, f 232, f 233, f 234, f 235, f 236, f 237, f 238, f 239, f 240, f 241, f 242, f 243, f 244, f 245, f 246, f 247, f 248] := by kernel_rfl
theorem fr17 (f : Nat → Value) (F k : Nat) : ((List.range Pp17.N).map fun t => if Pp17.pre.contains t then pvp17 F k t else f t) = [pt F 0, f 1, f 2, f 3, pt F 0, f 5, f 6, f 7, f 8, f 9, f 10, f 11, f 12, f 13, f 14, f 15, f 16, f 17, f 18, f 19, f 20, f 21, f 22, f 23, f 24, f 25, f 26, f 27, f 28, f 29, f 30, f 31, f 32, f 33, f 34, f 35, f 36, f 37, f 38, f 39, f 40, f 41, f 42, f 43, f 44, f 45, f 46, f 47, f 48, f 49, f 50, f 51, f 52, f 53, f 54, f 55, f 56, f 57, f 58, f 59, f 60, f 61, f 62, f 63, f 64, f 65, f 66, f 67, f 68, f 69, f 70, f 71, f 72, f 73, f 74, f 75, f 76, f 77, f 78, f 79, f 80, f 81, f 82, f 83, f 84, f 85, f 86, f 87, f 88, f 89, f 90, f 91, f 92, f 93, f 94, f 95, f 96, f 97, f 98, f 99, f 100, f 101, f 102, f 103, f 104, f 105, f 106, f 107, f 108, f 109, f 110, f 111, f 112, f 113, f 114, f 115, f 116, f 117, f 118, f 119, f 120, f 121, f 122, f 123, f 124, f 125, f 126, f 127, f 128, f 129, f 130, f 131, f 132, f 133, f 134, f 135, f 136, f 137, f 138, f 139, f 140, f 141, f 142, f 143, f 144, f 145, f 146, f 147, f 148, f 149, f 150, f 151, f 152, f 153, f 154, f 155, f 156, f 157, f 158, f 159, f 160, f 161, f 162, f 163, f 164, f 165, f 166, f 167, f 168, f 169, f 170, f 171, f 172, f 173, f 174, f 175, f 176, f 177, f 178, f 179, f 180, f 181, f 182, f 183, f 184, f 185, f 186, f 187, f 188, f 189, f 190, f 191, f 192, f 193, f 194, f 195, f 196, f 197, f 198, f 199, f 200, f 201, f 202, f 203, f 204, f 205, f 206, f 207, f 208, f 209, f 210, f 211, f 212, f 213, f 214, f 215, f 216, f 217, f 218, f 219, f 220, f 221, f 222, f 223, f 224, f 225, f 226, f 227, f 228, f 229, f 230, f 231, f 232, f 233, f 234, f 235, f 236, f 237, f 238, f 239, f 240, f 241, f 242, f 243, f 244, f 245, f 246, f 247, f 248] := by kernel_rfl

set_option maxRecDepth 1000000 in
set_option maxHeartbeats 80000000 in
theorem fits_any (M : Nat → Int) (b7 b16 b17 : Bool) (F G k cap : Nat) (w : World) (h : FileR M b7 b16 b17 F G k cap w) : Calls Tryz.prog 13 #[.pointer (some ⟨F, 0, none⟩)] w (Fits w) := by
  have c28 : w.cell? ⟨F, 28, none⟩ = some (.slice (some ⟨G, 0, none⟩) k cap) := h.cells 28 _ rfl
  have HF := Lib.hid h
  clear h
  go_enter Tryz.func13, Tryz.ntmps13
  go_upto_region 3 with fail
  have hcut : True := trivial
  refine reg_eq (by kernel_rfl : _ = Pp3.ops) (Pu.region (p := Pp3) (by kernel_rfl) (pv := pvp3 F k) (good := goodp3 M F G k cap) ⟨by kernel_rfl, rfl, ?_, rfl, fun j hj => absurd hj (Nat.not_lt_zero j)⟩ (fun i hi a W h => stepsp3 HF.out i hi a W h) ?_)
  · intro t ht
    have ht' : t ∈ [0, 2, 3, 4] := ht
    simp only [List.mem_cons, List.not_mem_nil, or_false] at ht'
    rcases ht' with rfl | rfl | rfl | rfl <;> rfl
  intro f hd
  rw [fr3]
  have e101 : f 101 = .bool false := hd 84 (by decide)
  rw [e101]
  clear e101 hd
  go_upto_region 5 with fail
  clear hcut
  clear c28
  refine reg_eq (by kernel_rfl : _ = F5.ops5) (F5.nums_region (c := ⟨w.heap.size, F, G, k, cap, M, b7, b16, b17, w⟩) ⟨HF.out, rfl⟩ ⟨by kernel_rfl, rfl, rfl, rfl, rfl, Below.refl _ _⟩ ?_)
  intro a' w' g cp l hB e192 e193 e194 hl hlim hcell
  obtain ⟨n, hn⟩ : ∃ n, n = 20 + k := ⟨_, rfl⟩
  have e192 : a'.eval (.tmp 192) = .slice (some ⟨g, 0, none⟩) n cp := by rw [hn]; exact e192
  have e193 : a'.eval (.tmp 193) = vi (n : Int) := by rw [hn]; exact e193
  have hl : l.length = n := by rw [hn]; exact hl
  have hfr := frame_known (pre := [0, 2, 4, 192, 193, 194]) (pv := pv5 F n g cp) hB.size hB.defers (fun t ht => by
    simp only [List.mem_cons, List.not_mem_nil, or_false] at ht
    rcases ht with rfl | rfl | rfl | rfl | rfl | rfl
    · exact hB.t0
    · exact hB.t2
    · exact hB.t4
    · exact e192
    · exact e193
    · exact e194)
  obtain ⟨f5, hf5⟩ : ∃ f : Nat → Value, f = fun t => a'.eval (.tmp t) := ⟨_, rfl⟩
  have hfr2 : a' = ⟨((List.range 249).map fun t => if [0, 2, 4, 192, 193, 194].contains t then pv5 F n g cp t else f5 t).toArray, []⟩ := by rw [hf5]; exact hfr
  rw [fr5] at hfr2
  clear hfr hf5 e192 e193 e194
  have HB := Lib.hid hB.below
  have HL := Lib.hid (And.intro hl (And.intro hlim hcell))
  clear hB hl hlim hcell
  subst hfr2
  have HN := Lib.hid hn
  clear hn
  go_wp2_with fail
  go_loopg [194] (n) (fun gk iv W => ∃ j : Nat, j ≤ n ∧ gk = n - j ∧ iv = .int .i64 j ∧ W = w')
  case atStart => exact ⟨0, by omega, rfl, rfl, rfl⟩
  case round =>
    obtain ⟨j, hj, hgk, rfl, rfl⟩ := hrel
    have HK := Lib.hid hgk
    clear hgk
    by_cases hlt : j < n
    · obtain ⟨x, hx⟩ : ∃ x, l[j]? = some x := ⟨_, List.getElem?_eq_getElem (by have := HL.out.1; omega)⟩
      have cx := HL.out.2.2 j x hx
      have hb := HL.out.2.1 x (List.mem_of_getElem? hx)
      have x1 : decide (x < -16000) = false := decide_eq_false (by omega)
      have x2 : decide (16000 < x) = false := decide_eq_false (by omega)
      have jn : (j : Int) < n := by omega
      have n60 : n ≤ 60 := by have := HN.out; have := HF.out.pos; omega
      clear hx hb
      go_wp2_with fail
      go_roundg (n - (j + 1))
      case measure => rw [HK.out]; omega
      case rel => exact ⟨j + 1, by omega, rfl, by simp, rfl⟩
    · have jn : ¬ (j : Int) < n := by omega
      have c27 : wr.cell? ⟨F, 27, none⟩ = some (.slice none 0 0) := below_cell HB.out (HF.out.cells 27 _ rfl)
      go_wp2_with fail
      refine wp_loop_rounds 1 ?_
      rw [rounds_succ]
      go_upto_region 17 with fail
      have hf17 := HF.out.later HB.out
      have HF17 := Lib.hid hf17
      clear hf17 c27
      refine reg_eq (by kernel_rfl : _ = Pp17.ops) (Pu.region (p := Pp17) (by kernel_rfl) (pv := pvp17 F k) (good := goodp17 M F G k cap) ⟨by kernel_rfl, rfl, ?_, rfl, fun j hj => absurd hj (Nat.not_lt_zero j)⟩ (fun i hi a W h => stepsp17 HF17.out i hi a W h) ?_)
      · intro t ht
        have ht' : t ∈ [0, 4] := ht
        simp only [List.mem_cons, List.not_mem_nil, or_false] at ht'
        rcases ht' with rfl | rfl <;> rfl
      intro f hd
      rw [fr17]
      have e2 : f 2 = .bool true := hd 26 (by decide)
      rw [e2]
      clear e2 hd
      go_wp2_with fail
      go_ret
      exact ⟨rfl, HB.out⟩
end Go.Proofs.YtgggpllmgnpngaaGreatDoor.Tb
