/- Whether a file can be written: its tests. -/
import Derived.Test.YtgggpllmgnpngaaGreatDoorTbFileR
import Derived.Test.YtgggpllmgnpngaaGreatDoorTbSeq
import Derived.Test.YtgggpllmgnpngaaGreatDoorTbCats
namespace Go.Proofs.YtgggpllmgnpngaaGreatDoor.Tb
open Go Go.RowKit
noncomputable def opsp3 : Array Oper := match Tryz.f13.body with | some b => (regionOf 3 b).getD #[] | none => #[]
noncomputable def Pp3 : Plan := ⟨opsp3, [17, 18, 19, 20, 21, 22, 23, 24, 25, 26, 27, 28, 29, 30, 31, 32, 33, 34, 35, 36, 37, 38, 39, 40, 41, 42, 43, 44, 45, 46, 47, 48, 49, 50, 51, 52, 53, 54, 55, 56, 57, 58, 59, 60, 61, 62, 63, 64, 65, 66, 67, 68, 69, 70, 71, 72, 73, 74, 75, 76, 77, 78, 79, 80, 81, 82, 83, 84, 85, 86, 87, 88, 89, 90, 91, 92, 93, 94, 95, 96, 97, 98, 99, 100, 101], 249, 85, [0, 2, 3, 4]⟩
theorem hpp3 : Pp3.Ok where
  size := Nat.le_of_eq (by kernel_rfl)
  dst := by
    have h : (List.range 85).all (fun i => (Pp3.at i).dst == some (Pp3.to i)) = true := by kernel_rfl
    intro i hi
    simpa using List.all_eq_true.1 h i (List.mem_range.2 hi)
  lt := by decide +kernel
  ne := by decide +kernel
  far := by decide +kernel
section
variable {M : Nat → Int} {b7 b16 b17 : Bool} {F G k cap : Nat} {w : World}
def pvp3 (F k : Nat) : Nat → Value
  | 0 => pt F 0
  | 2 => .bool false
  | 3 => vi (k : Int)
  | 4 => pt F 0
  | _ => undef
def valsp3 (M : Nat → Int) (F _G k _cap : Nat) : List Value := [vi (k : Int), .bool false, .bool false, vi (k : Int), .bool false, .bool false, .bool false, pt F 0, pt F 0, pt F 29, vi 1, .bool false, .bool false, .bool false, pt F 0, pt F 0, pt F 29, vi 1, vi (k : Int), .bool false, .bool false, .bool false, pt F 0, pt F 0, pt F 27, .slice none 0 0, vi ((0 : Nat) : Int), .bool false, .bool false, undef, undef, undef, undef, undef, undef, undef, .bool false, .bool false, .bool false, pt F 0, pt F 0, pt F 30, .slice none 0 0, vi ((0 : Nat) : Int), .bool false, .bool false, undef, undef, undef, undef, undef, undef, undef, .bool false, .bool false, .bool false, pt F 0, pt F 0, pt F 26, .slice none 0 0, vi ((0 : Nat) : Int), .bool false, .bool false, .bool false, pt F 0, pt F 0, pt F 31, .slice none 0 0, vi ((0 : Nat) : Int), .bool false, .bool false, .bool false, pt F 0, pt F 0, pt F 0, vi (M 0), .bool false, .bool false, .bool false, pt F 0, pt F 0, pt F 0, vi (M 0), .bool false, .bool false]
def goodp3 (M : Nat → Int) (F G k cap : Nat) (j : Nat) (v : Value) : Prop := v = (valsp3 M F G k cap).getD j undef
abbrev Nowp3 (M : Nat → Int) (F G k cap : Nat) (w : World) := Pu Pp3 (pvp3 F k) (goodp3 M F G k cap) w
theorem ap3_0 {a : Act} {W : World} {Q : Exit → Act → World → Prop} (h : Nowp3 M F G k cap w 0 a W) : wpOp Tryz.prog Pp3.ops Q 0 (Nowp3 M F G k cap w (0 + 1)) a W :=
  h.run hpp3 (by decide) (want_none (by kernel_rfl)) (r_move a W _ (.tmp 3) _ (by kernel_rfl) (show a.eval (.tmp 3) = vi (k : Int) from h.pre 3 (by decide))) rfl
theorem ap3_1 (hf : FileR M b7 b16 b17 F G k cap w) {a : Act} {W : World} {Q : Exit → Act → World → Prop} (h : Nowp3 M F G k cap w 1 a W) : wpOp Tryz.prog Pp3.ops Q 1 (Nowp3 M F G k cap w (1 + 1)) a W :=
  h.run hpp3 (by decide) (want_none (by kernel_rfl)) (r_lss a W _ (.tmp 17) (.const (.int .i64 1)) _ _ false (by kernel_rfl) (show a.eval (.tmp 17) = vi (k : Int) from h.done 0 (by decide)) rfl (decide_eq_false (by have := hf.pos; have := hf.lim.all 0; have := hf.lim.upem; omega))) rfl
theorem ap3_2 {a : Act} {W : World} {Q : Exit → Act → World → Prop} (h : Nowp3 M F G k cap w 2 a W) : wpOp Tryz.prog Pp3.ops Q 2 (Nowp3 M F G k cap w (2 + 1)) a W :=
  h.run hpp3 (by decide) (want_none (by kernel_rfl)) (r_move a W _ (.tmp 18) _ (by kernel_rfl) (show a.eval (.tmp 18) = .bool false from h.done 1 (by decide))) rfl
theorem ap3_3 {a : Act} {W : World} {Q : Exit → Act → World → Prop} (h : Nowp3 M F G k cap w 3 a W) : wpOp Tryz.prog Pp3.ops Q 3 (Nowp3 M F G k cap w (3 + 1)) a W :=
  h.run hpp3 (by decide) ((want_of hpp3 h (g := 2) (b := false) (c := false) (by kernel_rfl) (by decide) (show a.eval (.tmp 19) = .bool false from h.done 2 (by decide))).trans rfl) (r_move a W _ (.tmp 3) _ (by kernel_rfl) (show a.eval (.tmp 3) = vi (k : Int) from h.pre 3 (by decide))) rfl
theorem ap3_4 (hf : FileR M b7 b16 b17 F G k cap w) {a : Act} {W : World} {Q : Exit → Act → World → Prop} (h : Nowp3 M F G k cap w 4 a W) : wpOp Tryz.prog Pp3.ops Q 4 (Nowp3 M F G k cap w (4 + 1)) a W :=
  h.run hpp3 (by decide) ((want_of hpp3 h (g := 2) (b := false) (c := false) (by kernel_rfl) (by decide) (show a.eval (.tmp 19) = .bool false from h.done 2 (by decide))).trans rfl) (r_gtr a W _ (.tmp 20) (.const (.int .i64 60)) _ _ false (by kernel_rfl) (show a.eval (.tmp 20) = vi (k : Int) from h.done 3 (by decide)) rfl (decide_eq_false (by have := hf.pos; have := hf.lim.all 0; have := hf.lim.upem; omega))) rfl
theorem ap3_5 {a : Act} {W : World} {Q : Exit → Act → World → Prop} (h : Nowp3 M F G k cap w 5 a W) : wpOp Tryz.prog Pp3.ops Q 5 (Nowp3 M F G k cap w (5 + 1)) a W :=
  h.run hpp3 (by decide) (want_none (by kernel_rfl)) (r_pick a W _ (.tmp 19) (.const (.bool true)) (.tmp 21) false _ _ _ (by kernel_rfl) (show a.eval (.tmp 19) = .bool false from h.done 2 (by decide)) rfl (show a.eval (.tmp 21) = .bool false from h.done 4 (by decide)) rfl) rfl
theorem ap3_6 {a : Act} {W : World} {Q : Exit → Act → World → Prop} (h : Nowp3 M F G k cap w 6 a W) : wpOp Tryz.prog Pp3.ops Q 6 (Nowp3 M F G k cap w (6 + 1)) a W :=
  h.run hpp3 (by decide) (want_none (by kernel_rfl)) (r_move a W _ (.tmp 22) _ (by kernel_rfl) (show a.eval (.tmp 22) = .bool false from h.done 5 (by decide))) rfl
theorem ap3_7 {a : Act} {W : World} {Q : Exit → Act → World → Prop} (h : Nowp3 M F G k cap w 7 a W) : wpOp Tryz.prog Pp3.ops Q 7 (Nowp3 M F G k cap w (7 + 1)) a W :=
  h.run hpp3 (by decide) ((want_of hpp3 h (g := 6) (b := false) (c := false) (by kernel_rfl) (by decide) (show a.eval (.tmp 23) = .bool false from h.done 6 (by decide))).trans rfl) (r_move a W _ (.tmp 0) _ (by kernel_rfl) (show a.eval (.tmp 0) = pt F 0 from h.pre 0 (by decide))) rfl
theorem ap3_8 {a : Act} {W : World} {Q : Exit → Act → World → Prop} (h : Nowp3 M F G k cap w 8 a W) : wpOp Tryz.prog Pp3.ops Q 8 (Nowp3 M F G k cap w (8 + 1)) a W :=
  h.run hpp3 (by decide) ((want_of hpp3 h (g := 6) (b := false) (c := false) (by kernel_rfl) (by decide) (show a.eval (.tmp 23) = .bool false from h.done 6 (by decide))).trans rfl) (r_nil a W _ (.tmp 24) F 0 (by kernel_rfl) (show a.eval (.tmp 24) = pt F 0 from h.done 7 (by decide))) rfl
theorem ap3_9 {a : Act} {W : World} {Q : Exit → Act → World → Prop} (h : Nowp3 M F G k cap w 9 a W) : wpOp Tryz.prog Pp3.ops Q 9 (Nowp3 M F G k cap w (9 + 1)) a W :=
  h.run hpp3 (by decide) ((want_of hpp3 h (g := 6) (b := false) (c := false) (by kernel_rfl) (by decide) (show a.eval (.tmp 23) = .bool false from h.done 6 (by decide))).trans rfl) (r_fa a W _ (.tmp 25) F 29 35 4 (by kernel_rfl) (show a.eval (.tmp 25) = pt F 0 from h.done 8 (by decide)) (fun w => by kernel_rfl)) rfl
theorem ap3_10 (hf : FileR M b7 b16 b17 F G k cap w) {a : Act} {W : World} {Q : Exit → Act → World → Prop} (h : Nowp3 M F G k cap w 10 a W) : wpOp Tryz.prog Pp3.ops Q 10 (Nowp3 M F G k cap w (10 + 1)) a W :=
  h.run hpp3 (by decide) ((want_of hpp3 h (g := 6) (b := false) (c := false) (by kernel_rfl) (by decide) (show a.eval (.tmp 23) = .bool false from h.done 6 (by decide))).trans rfl) (r_ld a W _ (.tmp 26) F 29 3 _ _ (by kernel_rfl) (show a.eval (.tmp 26) = pt F 29 from h.done 9 (by decide)) (by rw [h.world]; exact hf.cells 29 _ rfl) Tryz.underlying3 rfl) rfl
theorem ap3_11 (hf : FileR M b7 b16 b17 F G k cap w) {a : Act} {W : World} {Q : Exit → Act → World → Prop} (h : Nowp3 M F G k cap w 11 a W) : wpOp Tryz.prog Pp3.ops Q 11 (Nowp3 M F G k cap w (11 + 1)) a W :=
  h.run hpp3 (by decide) ((want_of hpp3 h (g := 6) (b := false) (c := false) (by kernel_rfl) (by decide) (show a.eval (.tmp 23) = .bool false from h.done 6 (by decide))).trans rfl) (r_lss a W _ (.tmp 27) (.const (.int .i64 1)) _ _ false (by kernel_rfl) (show a.eval (.tmp 27) = vi 1 from h.done 10 (by decide)) rfl (decide_eq_false (by have := hf.pos; have := hf.lim.all 0; have := hf.lim.upem; omega))) rfl
theorem ap3_12 {a : Act} {W : World} {Q : Exit → Act → World → Prop} (h : Nowp3 M F G k cap w 12 a W) : wpOp Tryz.prog Pp3.ops Q 12 (Nowp3 M F G k cap w (12 + 1)) a W :=
  h.run hpp3 (by decide) (want_none (by kernel_rfl)) (r_pick a W _ (.tmp 23) (.const (.bool true)) (.tmp 28) false _ _ _ (by kernel_rfl) (show a.eval (.tmp 23) = .bool false from h.done 6 (by decide)) rfl (show a.eval (.tmp 28) = .bool false from h.done 11 (by decide)) rfl) rfl
theorem ap3_13 {a : Act} {W : World} {Q : Exit → Act → World → Prop} (h : Nowp3 M F G k cap w 13 a W) : wpOp Tryz.prog Pp3.ops Q 13 (Nowp3 M F G k cap w (13 + 1)) a W :=
  h.run hpp3 (by decide) (want_none (by kernel_rfl)) (r_move a W _ (.tmp 29) _ (by kernel_rfl) (show a.eval (.tmp 29) = .bool false from h.done 12 (by decide))) rfl
theorem ap3_14 {a : Act} {W : World} {Q : Exit → Act → World → Prop} (h : Nowp3 M F G k cap w 14 a W) : wpOp Tryz.prog Pp3.ops Q 14 (Nowp3 M F G k cap w (14 + 1)) a W :=
  h.run hpp3 (by decide) ((want_of hpp3 h (g := 13) (b := false) (c := false) (by kernel_rfl) (by decide) (show a.eval (.tmp 30) = .bool false from h.done 13 (by decide))).trans rfl) (r_move a W _ (.tmp 0) _ (by kernel_rfl) (show a.eval (.tmp 0) = pt F 0 from h.pre 0 (by decide))) rfl
theorem ap3_15 {a : Act} {W : World} {Q : Exit → Act → World → Prop} (h : Nowp3 M F G k cap w 15 a W) : wpOp Tryz.prog Pp3.ops Q 15 (Nowp3 M F G k cap w (15 + 1)) a W :=
  h.run hpp3 (by decide) ((want_of hpp3 h (g := 13) (b := false) (c := false) (by kernel_rfl) (by decide) (show a.eval (.tmp 30) = .bool false from h.done 13 (by decide))).trans rfl) (r_nil a W _ (.tmp 31) F 0 (by kernel_rfl) (show a.eval (.tmp 31) = pt F 0 from h.done 14 (by decide))) rfl
theorem ap3_16 {a : Act} {W : World} {Q : Exit → Act → World → Prop} (h : Nowp3 M F G k cap w 16 a W) : wpOp Tryz.prog Pp3.ops Q 16 (Nowp3 M F G k cap w (16 + 1)) a W :=
  h.run hpp3 (by decide) ((want_of hpp3 h (g := 13) (b := false) (c := false) (by kernel_rfl) (by decide) (show a.eval (.tmp 30) = .bool false from h.done 13 (by decide))).trans rfl) (r_fa a W _ (.tmp 32) F 29 35 4 (by kernel_rfl) (show a.eval (.tmp 32) = pt F 0 from h.done 15 (by decide)) (fun w => by kernel_rfl)) rfl
theorem ap3_17 (hf : FileR M b7 b16 b17 F G k cap w) {a : Act} {W : World} {Q : Exit → Act → World → Prop} (h : Nowp3 M F G k cap w 17 a W) : wpOp Tryz.prog Pp3.ops Q 17 (Nowp3 M F G k cap w (17 + 1)) a W :=
  h.run hpp3 (by decide) ((want_of hpp3 h (g := 13) (b := false) (c := false) (by kernel_rfl) (by decide) (show a.eval (.tmp 30) = .bool false from h.done 13 (by decide))).trans rfl) (r_ld a W _ (.tmp 33) F 29 3 _ _ (by kernel_rfl) (show a.eval (.tmp 33) = pt F 29 from h.done 16 (by decide)) (by rw [h.world]; exact hf.cells 29 _ rfl) Tryz.underlying3 rfl) rfl
theorem ap3_18 {a : Act} {W : World} {Q : Exit → Act → World → Prop} (h : Nowp3 M F G k cap w 18 a W) : wpOp Tryz.prog Pp3.ops Q 18 (Nowp3 M F G k cap w (18 + 1)) a W :=
  h.run hpp3 (by decide) ((want_of hpp3 h (g := 13) (b := false) (c := false) (by kernel_rfl) (by decide) (show a.eval (.tmp 30) = .bool false from h.done 13 (by decide))).trans rfl) (r_move a W _ (.tmp 3) _ (by kernel_rfl) (show a.eval (.tmp 3) = vi (k : Int) from h.pre 3 (by decide))) rfl
theorem ap3_19 (hf : FileR M b7 b16 b17 F G k cap w) {a : Act} {W : World} {Q : Exit → Act → World → Prop} (h : Nowp3 M F G k cap w 19 a W) : wpOp Tryz.prog Pp3.ops Q 19 (Nowp3 M F G k cap w (19 + 1)) a W :=
  h.run hpp3 (by decide) ((want_of hpp3 h (g := 13) (b := false) (c := false) (by kernel_rfl) (by decide) (show a.eval (.tmp 30) = .bool false from h.done 13 (by decide))).trans rfl) (r_gtr a W _ (.tmp 34) (.tmp 35) _ _ false (by kernel_rfl) (show a.eval (.tmp 34) = vi 1 from h.done 17 (by decide)) (show a.eval (.tmp 35) = vi (k : Int) from h.done 18 (by decide)) (decide_eq_false (by have := hf.pos; have := hf.lim.all 0; have := hf.lim.upem; omega))) rfl
theorem ap3_20 {a : Act} {W : World} {Q : Exit → Act → World → Prop} (h : Nowp3 M F G k cap w 20 a W) : wpOp Tryz.prog Pp3.ops Q 20 (Nowp3 M F G k cap w (20 + 1)) a W :=
  h.run hpp3 (by decide) (want_none (by kernel_rfl)) (r_pick a W _ (.tmp 30) (.const (.bool true)) (.tmp 36) false _ _ _ (by kernel_rfl) (show a.eval (.tmp 30) = .bool false from h.done 13 (by decide)) rfl (show a.eval (.tmp 36) = .bool false from h.done 19 (by decide)) rfl) rfl
theorem ap3_21 {a : Act} {W : World} {Q : Exit → Act → World → Prop} (h : Nowp3 M F G k cap w 21 a W) : wpOp Tryz.prog Pp3.ops Q 21 (Nowp3 M F G k cap w (21 + 1)) a W :=
  h.run hpp3 (by decide) (want_none (by kernel_rfl)) (r_move a W _ (.tmp 37) _ (by kernel_rfl) (show a.eval (.tmp 37) = .bool false from h.done 20 (by decide))) rfl
theorem ap3_22 {a : Act} {W : World} {Q : Exit → Act → World → Prop} (h : Nowp3 M F G k cap w 22 a W) : wpOp Tryz.prog Pp3.ops Q 22 (Nowp3 M F G k cap w (22 + 1)) a W :=
  h.run hpp3 (by decide) ((want_of hpp3 h (g := 21) (b := false) (c := false) (by kernel_rfl) (by decide) (show a.eval (.tmp 38) = .bool false from h.done 21 (by decide))).trans rfl) (r_move a W _ (.tmp 0) _ (by kernel_rfl) (show a.eval (.tmp 0) = pt F 0 from h.pre 0 (by decide))) rfl
theorem ap3_23 {a : Act} {W : World} {Q : Exit → Act → World → Prop} (h : Nowp3 M F G k cap w 23 a W) : wpOp Tryz.prog Pp3.ops Q 23 (Nowp3 M F G k cap w (23 + 1)) a W :=
  h.run hpp3 (by decide) ((want_of hpp3 h (g := 21) (b := false) (c := false) (by kernel_rfl) (by decide) (show a.eval (.tmp 38) = .bool false from h.done 21 (by decide))).trans rfl) (r_nil a W _ (.tmp 39) F 0 (by kernel_rfl) (show a.eval (.tmp 39) = pt F 0 from h.done 22 (by decide))) rfl
theorem ap3_24 {a : Act} {W : World} {Q : Exit → Act → World → Prop} (h : Nowp3 M F G k cap w 24 a W) : wpOp Tryz.prog Pp3.ops Q 24 (Nowp3 M F G k cap w (24 + 1)) a W :=
  h.run hpp3 (by decide) ((want_of hpp3 h (g := 21) (b := false) (c := false) (by kernel_rfl) (by decide) (show a.eval (.tmp 38) = .bool false from h.done 21 (by decide))).trans rfl) (r_fa a W _ (.tmp 40) F 27 35 2 (by kernel_rfl) (show a.eval (.tmp 40) = pt F 0 from h.done 23 (by decide)) (fun w => by kernel_rfl)) rfl
theorem ap3_25 (hf : FileR M b7 b16 b17 F G k cap w) {a : Act} {W : World} {Q : Exit → Act → World → Prop} (h : Nowp3 M F G k cap w 25 a W) : wpOp Tryz.prog Pp3.ops Q 25 (Nowp3 M F G k cap w (25 + 1)) a W :=
  h.run hpp3 (by decide) ((want_of hpp3 h (g := 21) (b := false) (c := false) (by kernel_rfl) (by decide) (show a.eval (.tmp 38) = .bool false from h.done 21 (by decide))).trans rfl) (r_ld a W _ (.tmp 41) F 27 28 _ _ (by kernel_rfl) (show a.eval (.tmp 41) = pt F 27 from h.done 24 (by decide)) (by rw [h.world]; exact hf.cells 27 _ rfl) Tryz.underlying28 rfl) rfl
theorem ap3_26 {a : Act} {W : World} {Q : Exit → Act → World → Prop} (h : Nowp3 M F G k cap w 26 a W) : wpOp Tryz.prog Pp3.ops Q 26 (Nowp3 M F G k cap w (26 + 1)) a W :=
  h.run hpp3 (by decide) ((want_of hpp3 h (g := 21) (b := false) (c := false) (by kernel_rfl) (by decide) (show a.eval (.tmp 38) = .bool false from h.done 21 (by decide))).trans rfl) (r_len a W _ (.tmp 42) 28 _ _ _ _ (by kernel_rfl) (show a.eval (.tmp 42) = .slice none 0 0 from h.done 25 (by decide)) Tryz.underlying28) rfl
theorem ap3_27 {a : Act} {W : World} {Q : Exit → Act → World → Prop} (h : Nowp3 M F G k cap w 27 a W) : wpOp Tryz.prog Pp3.ops Q 27 (Nowp3 M F G k cap w (27 + 1)) a W :=
  h.run hpp3 (by decide) ((want_of hpp3 h (g := 21) (b := false) (c := false) (by kernel_rfl) (by decide) (show a.eval (.tmp 38) = .bool false from h.done 21 (by decide))).trans rfl) (r_neq a W _ (.tmp 43) (.const (.int .i64 0)) _ _ false (by kernel_rfl) (show a.eval (.tmp 43) = vi ((0 : Nat) : Int) from h.done 26 (by decide)) rfl (by decide)) rfl
theorem ap3_28 {a : Act} {W : World} {Q : Exit → Act → World → Prop} (h : Nowp3 M F G k cap w 28 a W) : wpOp Tryz.prog Pp3.ops Q 28 (Nowp3 M F G k cap w (28 + 1)) a W :=
  h.run hpp3 (by decide) ((want_of hpp3 h (g := 21) (b := false) (c := false) (by kernel_rfl) (by decide) (show a.eval (.tmp 38) = .bool false from h.done 21 (by decide))).trans rfl) (r_move a W _ (.tmp 44) _ (by kernel_rfl) (show a.eval (.tmp 44) = .bool false from h.done 27 (by decide))) rfl
theorem ap3_29 {a : Act} {W : World} {Q : Exit → Act → World → Prop} (h : Nowp3 M F G k cap w 29 a W) : wpOp Tryz.prog Pp3.ops Q 29 (Nowp3 M F G k cap w (29 + 1)) a W :=
  h.skip hpp3 (by decide) ((want_of hpp3 h (g := 28) (b := false) (c := true) (by kernel_rfl) (by decide) (show a.eval (.tmp 45) = .bool false from h.done 28 (by decide))).trans rfl) rfl
theorem ap3_30 {a : Act} {W : World} {Q : Exit → Act → World → Prop} (h : Nowp3 M F G k cap w 30 a W) : wpOp Tryz.prog Pp3.ops Q 30 (Nowp3 M F G k cap w (30 + 1)) a W :=
  h.skip hpp3 (by decide) ((want_of hpp3 h (g := 28) (b := false) (c := true) (by kernel_rfl) (by decide) (show a.eval (.tmp 45) = .bool false from h.done 28 (by decide))).trans rfl) rfl
theorem ap3_31 {a : Act} {W : World} {Q : Exit → Act → World → Prop} (h : Nowp3 M F G k cap w 31 a W) : wpOp Tryz.prog Pp3.ops Q 31 (Nowp3 M F G k cap w (31 + 1)) a W :=
  h.skip hpp3 (by decide) ((want_of hpp3 h (g := 28) (b := false) (c := true) (by kernel_rfl) (by decide) (show a.eval (.tmp 45) = .bool false from h.done 28 (by decide))).trans rfl) rfl
theorem ap3_32 {a : Act} {W : World} {Q : Exit → Act → World → Prop} (h : Nowp3 M F G k cap w 32 a W) : wpOp Tryz.prog Pp3.ops Q 32 (Nowp3 M F G k cap w (32 + 1)) a W :=
  h.skip hpp3 (by decide) ((want_of hpp3 h (g := 28) (b := false) (c := true) (by kernel_rfl) (by decide) (show a.eval (.tmp 45) = .bool false from h.done 28 (by decide))).trans rfl) rfl
theorem ap3_33 {a : Act} {W : World} {Q : Exit → Act → World → Prop} (h : Nowp3 M F G k cap w 33 a W) : wpOp Tryz.prog Pp3.ops Q 33 (Nowp3 M F G k cap w (33 + 1)) a W :=
  h.skip hpp3 (by decide) ((want_of hpp3 h (g := 28) (b := false) (c := true) (by kernel_rfl) (by decide) (show a.eval (.tmp 45) = .bool false from h.done 28 (by decide))).trans rfl) rfl
theorem ap3_34 {a : Act} {W : World} {Q : Exit → Act → World → Prop} (h : Nowp3 M F G k cap w 34 a W) : wpOp Tryz.prog Pp3.ops Q 34 (Nowp3 M F G k cap w (34 + 1)) a W :=
  h.skip hpp3 (by decide) ((want_of hpp3 h (g := 28) (b := false) (c := true) (by kernel_rfl) (by decide) (show a.eval (.tmp 45) = .bool false from h.done 28 (by decide))).trans rfl) rfl
theorem ap3_35 {a : Act} {W : World} {Q : Exit → Act → World → Prop} (h : Nowp3 M F G k cap w 35 a W) : wpOp Tryz.prog Pp3.ops Q 35 (Nowp3 M F G k cap w (35 + 1)) a W :=
  h.skip hpp3 (by decide) ((want_of hpp3 h (g := 28) (b := false) (c := true) (by kernel_rfl) (by decide) (show a.eval (.tmp 45) = .bool false from h.done 28 (by decide))).trans rfl) rfl
theorem ap3_36 {a : Act} {W : World} {Q : Exit → Act → World → Prop} (h : Nowp3 M F G k cap w 36 a W) : wpOp Tryz.prog Pp3.ops Q 36 (Nowp3 M F G k cap w (36 + 1)) a W :=
  h.run hpp3 (by decide) ((want_of hpp3 h (g := 21) (b := false) (c := false) (by kernel_rfl) (by decide) (show a.eval (.tmp 38) = .bool false from h.done 21 (by decide))).trans rfl) (r_pick a W _ (.tmp 45) (.tmp 52) (.const (.bool false)) false _ _ _ (by kernel_rfl) (show a.eval (.tmp 45) = .bool false from h.done 28 (by decide)) (show a.eval (.tmp 52) = undef from h.done 35 (by decide)) rfl rfl) rfl
theorem ap3_37 {a : Act} {W : World} {Q : Exit → Act → World → Prop} (h : Nowp3 M F G k cap w 37 a W) : wpOp Tryz.prog Pp3.ops Q 37 (Nowp3 M F G k cap w (37 + 1)) a W :=
  h.run hpp3 (by decide) (want_none (by kernel_rfl)) (r_pick a W _ (.tmp 38) (.const (.bool true)) (.tmp 53) false _ _ _ (by kernel_rfl) (show a.eval (.tmp 38) = .bool false from h.done 21 (by decide)) rfl (show a.eval (.tmp 53) = .bool false from h.done 36 (by decide)) rfl) rfl
theorem ap3_38 {a : Act} {W : World} {Q : Exit → Act → World → Prop} (h : Nowp3 M F G k cap w 38 a W) : wpOp Tryz.prog Pp3.ops Q 38 (Nowp3 M F G k cap w (38 + 1)) a W :=
  h.run hpp3 (by decide) (want_none (by kernel_rfl)) (r_move a W _ (.tmp 54) _ (by kernel_rfl) (show a.eval (.tmp 54) = .bool false from h.done 37 (by decide))) rfl
theorem ap3_39 {a : Act} {W : World} {Q : Exit → Act → World → Prop} (h : Nowp3 M F G k cap w 39 a W) : wpOp Tryz.prog Pp3.ops Q 39 (Nowp3 M F G k cap w (39 + 1)) a W :=
  h.run hpp3 (by decide) ((want_of hpp3 h (g := 38) (b := false) (c := false) (by kernel_rfl) (by decide) (show a.eval (.tmp 55) = .bool false from h.done 38 (by decide))).trans rfl) (r_move a W _ (.tmp 0) _ (by kernel_rfl) (show a.eval (.tmp 0) = pt F 0 from h.pre 0 (by decide))) rfl
theorem ap3_40 {a : Act} {W : World} {Q : Exit → Act → World → Prop} (h : Nowp3 M F G k cap w 40 a W) : wpOp Tryz.prog Pp3.ops Q 40 (Nowp3 M F G k cap w (40 + 1)) a W :=
  h.run hpp3 (by decide) ((want_of hpp3 h (g := 38) (b := false) (c := false) (by kernel_rfl) (by decide) (show a.eval (.tmp 55) = .bool false from h.done 38 (by decide))).trans rfl) (r_nil a W _ (.tmp 56) F 0 (by kernel_rfl) (show a.eval (.tmp 56) = pt F 0 from h.done 39 (by decide))) rfl
theorem ap3_41 {a : Act} {W : World} {Q : Exit → Act → World → Prop} (h : Nowp3 M F G k cap w 41 a W) : wpOp Tryz.prog Pp3.ops Q 41 (Nowp3 M F G k cap w (41 + 1)) a W :=
  h.run hpp3 (by decide) ((want_of hpp3 h (g := 38) (b := false) (c := false) (by kernel_rfl) (by decide) (show a.eval (.tmp 55) = .bool false from h.done 38 (by decide))).trans rfl) (r_fa a W _ (.tmp 57) F 30 35 5 (by kernel_rfl) (show a.eval (.tmp 57) = pt F 0 from h.done 40 (by decide)) (fun w => by kernel_rfl)) rfl
theorem ap3_42 (hf : FileR M b7 b16 b17 F G k cap w) {a : Act} {W : World} {Q : Exit → Act → World → Prop} (h : Nowp3 M F G k cap w 42 a W) : wpOp Tryz.prog Pp3.ops Q 42 (Nowp3 M F G k cap w (42 + 1)) a W :=
  h.run hpp3 (by decide) ((want_of hpp3 h (g := 38) (b := false) (c := false) (by kernel_rfl) (by decide) (show a.eval (.tmp 55) = .bool false from h.done 38 (by decide))).trans rfl) (r_ld a W _ (.tmp 58) F 30 29 _ _ (by kernel_rfl) (show a.eval (.tmp 58) = pt F 30 from h.done 41 (by decide)) (by rw [h.world]; exact hf.cells 30 _ rfl) Tryz.underlying29 rfl) rfl
theorem ap3_43 {a : Act} {W : World} {Q : Exit → Act → World → Prop} (h : Nowp3 M F G k cap w 43 a W) : wpOp Tryz.prog Pp3.ops Q 43 (Nowp3 M F G k cap w (43 + 1)) a W :=
  h.run hpp3 (by decide) ((want_of hpp3 h (g := 38) (b := false) (c := false) (by kernel_rfl) (by decide) (show a.eval (.tmp 55) = .bool false from h.done 38 (by decide))).trans rfl) (r_len a W _ (.tmp 59) 29 _ _ _ _ (by kernel_rfl) (show a.eval (.tmp 59) = .slice none 0 0 from h.done 42 (by decide)) Tryz.underlying29) rfl
theorem ap3_44 {a : Act} {W : World} {Q : Exit → Act → World → Prop} (h : Nowp3 M F G k cap w 44 a W) : wpOp Tryz.prog Pp3.ops Q 44 (Nowp3 M F G k cap w (44 + 1)) a W :=
  h.run hpp3 (by decide) ((want_of hpp3 h (g := 38) (b := false) (c := false) (by kernel_rfl) (by decide) (show a.eval (.tmp 55) = .bool false from h.done 38 (by decide))).trans rfl) (r_neq a W _ (.tmp 60) (.const (.int .i64 0)) _ _ false (by kernel_rfl) (show a.eval (.tmp 60) = vi ((0 : Nat) : Int) from h.done 43 (by decide)) rfl (by decide)) rfl
theorem ap3_45 {a : Act} {W : World} {Q : Exit → Act → World → Prop} (h : Nowp3 M F G k cap w 45 a W) : wpOp Tryz.prog Pp3.ops Q 45 (Nowp3 M F G k cap w (45 + 1)) a W :=
  h.run hpp3 (by decide) ((want_of hpp3 h (g := 38) (b := false) (c := false) (by kernel_rfl) (by decide) (show a.eval (.tmp 55) = .bool false from h.done 38 (by decide))).trans rfl) (r_move a W _ (.tmp 61) _ (by kernel_rfl) (show a.eval (.tmp 61) = .bool false from h.done 44 (by decide))) rfl
theorem ap3_46 {a : Act} {W : World} {Q : Exit → Act → World → Prop} (h : Nowp3 M F G k cap w 46 a W) : wpOp Tryz.prog Pp3.ops Q 46 (Nowp3 M F G k cap w (46 + 1)) a W :=
  h.skip hpp3 (by decide) ((want_of hpp3 h (g := 45) (b := false) (c := true) (by kernel_rfl) (by decide) (show a.eval (.tmp 62) = .bool false from h.done 45 (by decide))).trans rfl) rfl
theorem ap3_47 {a : Act} {W : World} {Q : Exit → Act → World → Prop} (h : Nowp3 M F G k cap w 47 a W) : wpOp Tryz.prog Pp3.ops Q 47 (Nowp3 M F G k cap w (47 + 1)) a W :=
  h.skip hpp3 (by decide) ((want_of hpp3 h (g := 45) (b := false) (c := true) (by kernel_rfl) (by decide) (show a.eval (.tmp 62) = .bool false from h.done 45 (by decide))).trans rfl) rfl
theorem ap3_48 {a : Act} {W : World} {Q : Exit → Act → World → Prop} (h : Nowp3 M F G k cap w 48 a W) : wpOp Tryz.prog Pp3.ops Q 48 (Nowp3 M F G k cap w (48 + 1)) a W :=
  h.skip hpp3 (by decide) ((want_of hpp3 h (g := 45) (b := false) (c := true) (by kernel_rfl) (by decide) (show a.eval (.tmp 62) = .bool false from h.done 45 (by decide))).trans rfl) rfl
theorem ap3_49 {a : Act} {W : World} {Q : Exit → Act → World → Prop} (h : Nowp3 M F G k cap w 49 a W) : wpOp Tryz.prog Pp3.ops Q 49 (Nowp3 M F G k cap w (49 + 1)) a W :=
  h.skip hpp3 (by decide) ((want_of hpp3 h (g := 45) (b := false) (c := true) (by kernel_rfl) (by decide) (show a.eval (.tmp 62) = .bool false from h.done 45 (by decide))).trans rfl) rfl
theorem ap3_50 {a : Act} {W : World} {Q : Exit → Act → World → Prop} (h : Nowp3 M F G k cap w 50 a W) : wpOp Tryz.prog Pp3.ops Q 50 (Nowp3 M F G k cap w (50 + 1)) a W :=
  h.skip hpp3 (by decide) ((want_of hpp3 h (g := 45) (b := false) (c := true) (by kernel_rfl) (by decide) (show a.eval (.tmp 62) = .bool false from h.done 45 (by decide))).trans rfl) rfl
theorem ap3_51 {a : Act} {W : World} {Q : Exit → Act → World → Prop} (h : Nowp3 M F G k cap w 51 a W) : wpOp Tryz.prog Pp3.ops Q 51 (Nowp3 M F G k cap w (51 + 1)) a W :=
  h.skip hpp3 (by decide) ((want_of hpp3 h (g := 45) (b := false) (c := true) (by kernel_rfl) (by decide) (show a.eval (.tmp 62) = .bool false from h.done 45 (by decide))).trans rfl) rfl
theorem ap3_52 {a : Act} {W : World} {Q : Exit → Act → World → Prop} (h : Nowp3 M F G k cap w 52 a W) : wpOp Tryz.prog Pp3.ops Q 52 (Nowp3 M F G k cap w (52 + 1)) a W :=
  h.skip hpp3 (by decide) ((want_of hpp3 h (g := 45) (b := false) (c := true) (by kernel_rfl) (by decide) (show a.eval (.tmp 62) = .bool false from h.done 45 (by decide))).trans rfl) rfl
theorem ap3_53 {a : Act} {W : World} {Q : Exit → Act → World → Prop} (h : Nowp3 M F G k cap w 53 a W) : wpOp Tryz.prog Pp3.ops Q 53 (Nowp3 M F G k cap w (53 + 1)) a W :=
  h.run hpp3 (by decide) ((want_of hpp3 h (g := 38) (b := false) (c := false) (by kernel_rfl) (by decide) (show a.eval (.tmp 55) = .bool false from h.done 38 (by decide))).trans rfl) (r_pick a W _ (.tmp 62) (.tmp 69) (.const (.bool false)) false _ _ _ (by kernel_rfl) (show a.eval (.tmp 62) = .bool false from h.done 45 (by decide)) (show a.eval (.tmp 69) = undef from h.done 52 (by decide)) rfl rfl) rfl
theorem ap3_54 {a : Act} {W : World} {Q : Exit → Act → World → Prop} (h : Nowp3 M F G k cap w 54 a W) : wpOp Tryz.prog Pp3.ops Q 54 (Nowp3 M F G k cap w (54 + 1)) a W :=
  h.run hpp3 (by decide) (want_none (by kernel_rfl)) (r_pick a W _ (.tmp 55) (.const (.bool true)) (.tmp 70) false _ _ _ (by kernel_rfl) (show a.eval (.tmp 55) = .bool false from h.done 38 (by decide)) rfl (show a.eval (.tmp 70) = .bool false from h.done 53 (by decide)) rfl) rfl
theorem ap3_55 {a : Act} {W : World} {Q : Exit → Act → World → Prop} (h : Nowp3 M F G k cap w 55 a W) : wpOp Tryz.prog Pp3.ops Q 55 (Nowp3 M F G k cap w (55 + 1)) a W :=
  h.run hpp3 (by decide) (want_none (by kernel_rfl)) (r_move a W _ (.tmp 71) _ (by kernel_rfl) (show a.eval (.tmp 71) = .bool false from h.done 54 (by decide))) rfl
theorem ap3_56 {a : Act} {W : World} {Q : Exit → Act → World → Prop} (h : Nowp3 M F G k cap w 56 a W) : wpOp Tryz.prog Pp3.ops Q 56 (Nowp3 M F G k cap w (56 + 1)) a W :=
  h.run hpp3 (by decide) ((want_of hpp3 h (g := 55) (b := false) (c := false) (by kernel_rfl) (by decide) (show a.eval (.tmp 72) = .bool false from h.done 55 (by decide))).trans rfl) (r_move a W _ (.tmp 0) _ (by kernel_rfl) (show a.eval (.tmp 0) = pt F 0 from h.pre 0 (by decide))) rfl
theorem ap3_57 {a : Act} {W : World} {Q : Exit → Act → World → Prop} (h : Nowp3 M F G k cap w 57 a W) : wpOp Tryz.prog Pp3.ops Q 57 (Nowp3 M F G k cap w (57 + 1)) a W :=
  h.run hpp3 (by decide) ((want_of hpp3 h (g := 55) (b := false) (c := false) (by kernel_rfl) (by decide) (show a.eval (.tmp 72) = .bool false from h.done 55 (by decide))).trans rfl) (r_nil a W _ (.tmp 73) F 0 (by kernel_rfl) (show a.eval (.tmp 73) = pt F 0 from h.done 56 (by decide))) rfl
theorem ap3_58 {a : Act} {W : World} {Q : Exit → Act → World → Prop} (h : Nowp3 M F G k cap w 58 a W) : wpOp Tryz.prog Pp3.ops Q 58 (Nowp3 M F G k cap w (58 + 1)) a W :=
  h.run hpp3 (by decide) ((want_of hpp3 h (g := 55) (b := false) (c := false) (by kernel_rfl) (by decide) (show a.eval (.tmp 72) = .bool false from h.done 55 (by decide))).trans rfl) (r_fa a W _ (.tmp 74) F 26 35 1 (by kernel_rfl) (show a.eval (.tmp 74) = pt F 0 from h.done 57 (by decide)) (fun w => by kernel_rfl)) rfl
theorem ap3_59 (hf : FileR M b7 b16 b17 F G k cap w) {a : Act} {W : World} {Q : Exit → Act → World → Prop} (h : Nowp3 M F G k cap w 59 a W) : wpOp Tryz.prog Pp3.ops Q 59 (Nowp3 M F G k cap w (59 + 1)) a W :=
  h.run hpp3 (by decide) ((want_of hpp3 h (g := 55) (b := false) (c := false) (by kernel_rfl) (by decide) (show a.eval (.tmp 72) = .bool false from h.done 55 (by decide))).trans rfl) (r_ld a W _ (.tmp 75) F 26 27 _ _ (by kernel_rfl) (show a.eval (.tmp 75) = pt F 26 from h.done 58 (by decide)) (by rw [h.world]; exact hf.cells 26 _ rfl) Tryz.underlying27 rfl) rfl
theorem ap3_60 {a : Act} {W : World} {Q : Exit → Act → World → Prop} (h : Nowp3 M F G k cap w 60 a W) : wpOp Tryz.prog Pp3.ops Q 60 (Nowp3 M F G k cap w (60 + 1)) a W :=
  h.run hpp3 (by decide) ((want_of hpp3 h (g := 55) (b := false) (c := false) (by kernel_rfl) (by decide) (show a.eval (.tmp 72) = .bool false from h.done 55 (by decide))).trans rfl) (r_len a W _ (.tmp 76) 27 _ _ _ _ (by kernel_rfl) (show a.eval (.tmp 76) = .slice none 0 0 from h.done 59 (by decide)) Tryz.underlying27) rfl
theorem ap3_61 (hf : FileR M b7 b16 b17 F G k cap w) {a : Act} {W : World} {Q : Exit → Act → World → Prop} (h : Nowp3 M F G k cap w 61 a W) : wpOp Tryz.prog Pp3.ops Q 61 (Nowp3 M F G k cap w (61 + 1)) a W :=
  h.run hpp3 (by decide) ((want_of hpp3 h (g := 55) (b := false) (c := false) (by kernel_rfl) (by decide) (show a.eval (.tmp 72) = .bool false from h.done 55 (by decide))).trans rfl) (r_gtr a W _ (.tmp 77) (.const (.int .i64 20)) _ _ false (by kernel_rfl) (show a.eval (.tmp 77) = vi ((0 : Nat) : Int) from h.done 60 (by decide)) rfl (decide_eq_false (by have := hf.pos; have := hf.lim.all 0; have := hf.lim.upem; omega))) rfl
theorem ap3_62 {a : Act} {W : World} {Q : Exit → Act → World → Prop} (h : Nowp3 M F G k cap w 62 a W) : wpOp Tryz.prog Pp3.ops Q 62 (Nowp3 M F G k cap w (62 + 1)) a W :=
  h.run hpp3 (by decide) (want_none (by kernel_rfl)) (r_pick a W _ (.tmp 72) (.const (.bool true)) (.tmp 78) false _ _ _ (by kernel_rfl) (show a.eval (.tmp 72) = .bool false from h.done 55 (by decide)) rfl (show a.eval (.tmp 78) = .bool false from h.done 61 (by decide)) rfl) rfl
theorem ap3_63 {a : Act} {W : World} {Q : Exit → Act → World → Prop} (h : Nowp3 M F G k cap w 63 a W) : wpOp Tryz.prog Pp3.ops Q 63 (Nowp3 M F G k cap w (63 + 1)) a W :=
  h.run hpp3 (by decide) (want_none (by kernel_rfl)) (r_move a W _ (.tmp 79) _ (by kernel_rfl) (show a.eval (.tmp 79) = .bool false from h.done 62 (by decide))) rfl
theorem ap3_64 {a : Act} {W : World} {Q : Exit → Act → World → Prop} (h : Nowp3 M F G k cap w 64 a W) : wpOp Tryz.prog Pp3.ops Q 64 (Nowp3 M F G k cap w (64 + 1)) a W :=
  h.run hpp3 (by decide) ((want_of hpp3 h (g := 63) (b := false) (c := false) (by kernel_rfl) (by decide) (show a.eval (.tmp 80) = .bool false from h.done 63 (by decide))).trans rfl) (r_move a W _ (.tmp 0) _ (by kernel_rfl) (show a.eval (.tmp 0) = pt F 0 from h.pre 0 (by decide))) rfl
theorem ap3_65 {a : Act} {W : World} {Q : Exit → Act → World → Prop} (h : Nowp3 M F G k cap w 65 a W) : wpOp Tryz.prog Pp3.ops Q 65 (Nowp3 M F G k cap w (65 + 1)) a W :=
  h.run hpp3 (by decide) ((want_of hpp3 h (g := 63) (b := false) (c := false) (by kernel_rfl) (by decide) (show a.eval (.tmp 80) = .bool false from h.done 63 (by decide))).trans rfl) (r_nil a W _ (.tmp 81) F 0 (by kernel_rfl) (show a.eval (.tmp 81) = pt F 0 from h.done 64 (by decide))) rfl
theorem ap3_66 {a : Act} {W : World} {Q : Exit → Act → World → Prop} (h : Nowp3 M F G k cap w 66 a W) : wpOp Tryz.prog Pp3.ops Q 66 (Nowp3 M F G k cap w (66 + 1)) a W :=
  h.run hpp3 (by decide) ((want_of hpp3 h (g := 63) (b := false) (c := false) (by kernel_rfl) (by decide) (show a.eval (.tmp 80) = .bool false from h.done 63 (by decide))).trans rfl) (r_fa a W _ (.tmp 82) F 31 35 6 (by kernel_rfl) (show a.eval (.tmp 82) = pt F 0 from h.done 65 (by decide)) (fun w => by kernel_rfl)) rfl
theorem ap3_67 (hf : FileR M b7 b16 b17 F G k cap w) {a : Act} {W : World} {Q : Exit → Act → World → Prop} (h : Nowp3 M F G k cap w 67 a W) : wpOp Tryz.prog Pp3.ops Q 67 (Nowp3 M F G k cap w (67 + 1)) a W :=
  h.run hpp3 (by decide) ((want_of hpp3 h (g := 63) (b := false) (c := false) (by kernel_rfl) (by decide) (show a.eval (.tmp 80) = .bool false from h.done 63 (by decide))).trans rfl) (r_ld a W _ (.tmp 83) F 31 30 _ _ (by kernel_rfl) (show a.eval (.tmp 83) = pt F 31 from h.done 66 (by decide)) (by rw [h.world]; exact hf.cells 31 _ rfl) Tryz.underlying30 rfl) rfl
theorem ap3_68 {a : Act} {W : World} {Q : Exit → Act → World → Prop} (h : Nowp3 M F G k cap w 68 a W) : wpOp Tryz.prog Pp3.ops Q 68 (Nowp3 M F G k cap w (68 + 1)) a W :=
  h.run hpp3 (by decide) ((want_of hpp3 h (g := 63) (b := false) (c := false) (by kernel_rfl) (by decide) (show a.eval (.tmp 80) = .bool false from h.done 63 (by decide))).trans rfl) (r_len a W _ (.tmp 84) 30 _ _ _ _ (by kernel_rfl) (show a.eval (.tmp 84) = .slice none 0 0 from h.done 67 (by decide)) Tryz.underlying30) rfl
theorem ap3_69 (hf : FileR M b7 b16 b17 F G k cap w) {a : Act} {W : World} {Q : Exit → Act → World → Prop} (h : Nowp3 M F G k cap w 69 a W) : wpOp Tryz.prog Pp3.ops Q 69 (Nowp3 M F G k cap w (69 + 1)) a W :=
  h.run hpp3 (by decide) ((want_of hpp3 h (g := 63) (b := false) (c := false) (by kernel_rfl) (by decide) (show a.eval (.tmp 80) = .bool false from h.done 63 (by decide))).trans rfl) (r_gtr a W _ (.tmp 85) (.const (.int .i64 4)) _ _ false (by kernel_rfl) (show a.eval (.tmp 85) = vi ((0 : Nat) : Int) from h.done 68 (by decide)) rfl (decide_eq_false (by have := hf.pos; have := hf.lim.all 0; have := hf.lim.upem; omega))) rfl
theorem ap3_70 {a : Act} {W : World} {Q : Exit → Act → World → Prop} (h : Nowp3 M F G k cap w 70 a W) : wpOp Tryz.prog Pp3.ops Q 70 (Nowp3 M F G k cap w (70 + 1)) a W :=
  h.run hpp3 (by decide) (want_none (by kernel_rfl)) (r_pick a W _ (.tmp 80) (.const (.bool true)) (.tmp 86) false _ _ _ (by kernel_rfl) (show a.eval (.tmp 80) = .bool false from h.done 63 (by decide)) rfl (show a.eval (.tmp 86) = .bool false from h.done 69 (by decide)) rfl) rfl
theorem ap3_71 {a : Act} {W : World} {Q : Exit → Act → World → Prop} (h : Nowp3 M F G k cap w 71 a W) : wpOp Tryz.prog Pp3.ops Q 71 (Nowp3 M F G k cap w (71 + 1)) a W :=
  h.run hpp3 (by decide) (want_none (by kernel_rfl)) (r_move a W _ (.tmp 87) _ (by kernel_rfl) (show a.eval (.tmp 87) = .bool false from h.done 70 (by decide))) rfl
theorem ap3_72 {a : Act} {W : World} {Q : Exit → Act → World → Prop} (h : Nowp3 M F G k cap w 72 a W) : wpOp Tryz.prog Pp3.ops Q 72 (Nowp3 M F G k cap w (72 + 1)) a W :=
  h.run hpp3 (by decide) ((want_of hpp3 h (g := 71) (b := false) (c := false) (by kernel_rfl) (by decide) (show a.eval (.tmp 88) = .bool false from h.done 71 (by decide))).trans rfl) (r_move a W _ (.tmp 4) _ (by kernel_rfl) (show a.eval (.tmp 4) = pt F 0 from h.pre 4 (by decide))) rfl
theorem ap3_73 {a : Act} {W : World} {Q : Exit → Act → World → Prop} (h : Nowp3 M F G k cap w 73 a W) : wpOp Tryz.prog Pp3.ops Q 73 (Nowp3 M F G k cap w (73 + 1)) a W :=
  h.run hpp3 (by decide) ((want_of hpp3 h (g := 71) (b := false) (c := false) (by kernel_rfl) (by decide) (show a.eval (.tmp 88) = .bool false from h.done 71 (by decide))).trans rfl) (r_nil a W _ (.tmp 89) F 0 (by kernel_rfl) (show a.eval (.tmp 89) = pt F 0 from h.done 72 (by decide))) rfl
theorem ap3_74 {a : Act} {W : World} {Q : Exit → Act → World → Prop} (h : Nowp3 M F G k cap w 74 a W) : wpOp Tryz.prog Pp3.ops Q 74 (Nowp3 M F G k cap w (74 + 1)) a W :=
  h.run hpp3 (by decide) ((want_of hpp3 h (g := 71) (b := false) (c := false) (by kernel_rfl) (by decide) (show a.eval (.tmp 88) = .bool false from h.done 71 (by decide))).trans rfl) (r_fa a W _ (.tmp 90) F 0 26 0 (by kernel_rfl) (show a.eval (.tmp 90) = pt F 0 from h.done 73 (by decide)) (fun w => by kernel_rfl)) rfl
theorem ap3_75 (hf : FileR M b7 b16 b17 F G k cap w) {a : Act} {W : World} {Q : Exit → Act → World → Prop} (h : Nowp3 M F G k cap w 75 a W) : wpOp Tryz.prog Pp3.ops Q 75 (Nowp3 M F G k cap w (75 + 1)) a W :=
  h.run hpp3 (by decide) ((want_of hpp3 h (g := 71) (b := false) (c := false) (by kernel_rfl) (by decide) (show a.eval (.tmp 88) = .bool false from h.done 71 (by decide))).trans rfl) (r_ld a W _ (.tmp 91) F 0 3 _ _ (by kernel_rfl) (show a.eval (.tmp 91) = pt F 0 from h.done 74 (by decide)) (by rw [h.world]; exact hf.cells 0 _ rfl) Tryz.underlying3 rfl) rfl
theorem ap3_76 (hf : FileR M b7 b16 b17 F G k cap w) {a : Act} {W : World} {Q : Exit → Act → World → Prop} (h : Nowp3 M F G k cap w 76 a W) : wpOp Tryz.prog Pp3.ops Q 76 (Nowp3 M F G k cap w (76 + 1)) a W :=
  h.run hpp3 (by decide) ((want_of hpp3 h (g := 71) (b := false) (c := false) (by kernel_rfl) (by decide) (show a.eval (.tmp 88) = .bool false from h.done 71 (by decide))).trans rfl) (r_lss a W _ (.tmp 92) (.const (.int .i64 16)) _ _ false (by kernel_rfl) (show a.eval (.tmp 92) = vi (M 0) from h.done 75 (by decide)) rfl (decide_eq_false (by have := hf.pos; have := hf.lim.all 0; have := hf.lim.upem; omega))) rfl
theorem ap3_77 {a : Act} {W : World} {Q : Exit → Act → World → Prop} (h : Nowp3 M F G k cap w 77 a W) : wpOp Tryz.prog Pp3.ops Q 77 (Nowp3 M F G k cap w (77 + 1)) a W :=
  h.run hpp3 (by decide) (want_none (by kernel_rfl)) (r_pick a W _ (.tmp 88) (.const (.bool true)) (.tmp 93) false _ _ _ (by kernel_rfl) (show a.eval (.tmp 88) = .bool false from h.done 71 (by decide)) rfl (show a.eval (.tmp 93) = .bool false from h.done 76 (by decide)) rfl) rfl
theorem ap3_78 {a : Act} {W : World} {Q : Exit → Act → World → Prop} (h : Nowp3 M F G k cap w 78 a W) : wpOp Tryz.prog Pp3.ops Q 78 (Nowp3 M F G k cap w (78 + 1)) a W :=
  h.run hpp3 (by decide) (want_none (by kernel_rfl)) (r_move a W _ (.tmp 94) _ (by kernel_rfl) (show a.eval (.tmp 94) = .bool false from h.done 77 (by decide))) rfl
theorem ap3_79 {a : Act} {W : World} {Q : Exit → Act → World → Prop} (h : Nowp3 M F G k cap w 79 a W) : wpOp Tryz.prog Pp3.ops Q 79 (Nowp3 M F G k cap w (79 + 1)) a W :=
  h.run hpp3 (by decide) ((want_of hpp3 h (g := 78) (b := false) (c := false) (by kernel_rfl) (by decide) (show a.eval (.tmp 95) = .bool false from h.done 78 (by decide))).trans rfl) (r_move a W _ (.tmp 4) _ (by kernel_rfl) (show a.eval (.tmp 4) = pt F 0 from h.pre 4 (by decide))) rfl
theorem ap3_80 {a : Act} {W : World} {Q : Exit → Act → World → Prop} (h : Nowp3 M F G k cap w 80 a W) : wpOp Tryz.prog Pp3.ops Q 80 (Nowp3 M F G k cap w (80 + 1)) a W :=
  h.run hpp3 (by decide) ((want_of hpp3 h (g := 78) (b := false) (c := false) (by kernel_rfl) (by decide) (show a.eval (.tmp 95) = .bool false from h.done 78 (by decide))).trans rfl) (r_nil a W _ (.tmp 96) F 0 (by kernel_rfl) (show a.eval (.tmp 96) = pt F 0 from h.done 79 (by decide))) rfl
theorem ap3_81 {a : Act} {W : World} {Q : Exit → Act → World → Prop} (h : Nowp3 M F G k cap w 81 a W) : wpOp Tryz.prog Pp3.ops Q 81 (Nowp3 M F G k cap w (81 + 1)) a W :=
  h.run hpp3 (by decide) ((want_of hpp3 h (g := 78) (b := false) (c := false) (by kernel_rfl) (by decide) (show a.eval (.tmp 95) = .bool false from h.done 78 (by decide))).trans rfl) (r_fa a W _ (.tmp 97) F 0 26 0 (by kernel_rfl) (show a.eval (.tmp 97) = pt F 0 from h.done 80 (by decide)) (fun w => by kernel_rfl)) rfl
theorem ap3_82 (hf : FileR M b7 b16 b17 F G k cap w) {a : Act} {W : World} {Q : Exit → Act → World → Prop} (h : Nowp3 M F G k cap w 82 a W) : wpOp Tryz.prog Pp3.ops Q 82 (Nowp3 M F G k cap w (82 + 1)) a W :=
  h.run hpp3 (by decide) ((want_of hpp3 h (g := 78) (b := false) (c := false) (by kernel_rfl) (by decide) (show a.eval (.tmp 95) = .bool false from h.done 78 (by decide))).trans rfl) (r_ld a W _ (.tmp 98) F 0 3 _ _ (by kernel_rfl) (show a.eval (.tmp 98) = pt F 0 from h.done 81 (by decide)) (by rw [h.world]; exact hf.cells 0 _ rfl) Tryz.underlying3 rfl) rfl
theorem ap3_83 (hf : FileR M b7 b16 b17 F G k cap w) {a : Act} {W : World} {Q : Exit → Act → World → Prop} (h : Nowp3 M F G k cap w 83 a W) : wpOp Tryz.prog Pp3.ops Q 83 (Nowp3 M F G k cap w (83 + 1)) a W :=
  h.run hpp3 (by decide) ((want_of hpp3 h (g := 78) (b := false) (c := false) (by kernel_rfl) (by decide) (show a.eval (.tmp 95) = .bool false from h.done 78 (by decide))).trans rfl) (r_gtr a W _ (.tmp 99) (.const (.int .i64 16384)) _ _ false (by kernel_rfl) (show a.eval (.tmp 99) = vi (M 0) from h.done 82 (by decide)) rfl (decide_eq_false (by have := hf.pos; have := hf.lim.all 0; have := hf.lim.upem; omega))) rfl
theorem ap3_84 {a : Act} {W : World} {Q : Exit → Act → World → Prop} (h : Nowp3 M F G k cap w 84 a W) : wpOp Tryz.prog Pp3.ops Q 84 (Nowp3 M F G k cap w (84 + 1)) a W :=
  h.run hpp3 (by decide) (want_none (by kernel_rfl)) (r_pick a W _ (.tmp 95) (.const (.bool true)) (.tmp 100) false _ _ _ (by kernel_rfl) (show a.eval (.tmp 95) = .bool false from h.done 78 (by decide)) rfl (show a.eval (.tmp 100) = .bool false from h.done 83 (by decide)) rfl) rfl
theorem stepsp3 (hf : FileR M b7 b16 b17 F G k cap w) {Q : Exit → Act → World → Prop} (i : Nat) (hi : i < Pp3.n) (a : Act) (W : World) (h : Nowp3 M F G k cap w i a W) : wpOp Tryz.prog Pp3.ops Q i (Nowp3 M F G k cap w (i + 1)) a W := by
  have hi' : i < 85 := hi
  clear hi
  match i, hi', h with
  | 0, _, h => exact ap3_0 h
  | 1, _, h => exact ap3_1 hf h
  | 2, _, h => exact ap3_2 h
  | 3, _, h => exact ap3_3 h
  | 4, _, h => exact ap3_4 hf h
  | 5, _, h => exact ap3_5 h
  | 6, _, h => exact ap3_6 h
  | 7, _, h => exact ap3_7 h
  | 8, _, h => exact ap3_8 h
  | 9, _, h => exact ap3_9 h
  | 10, _, h => exact ap3_10 hf h
  | 11, _, h => exact ap3_11 hf h
  | 12, _, h => exact ap3_12 h
  | 13, _, h => exact ap3_13 h
  | 14, _, h => exact ap3_14 h
  | 15, _, h => exact ap3_15 h
  | 16, _, h => exact ap3_16 h
  | 17, _, h => exact ap3_17 hf h
  | 18, _, h => exact ap3_18 h
  | 19, _, h => exact ap3_19 hf h
  | 20, _, h => exact ap3_20 h
  | 21, _, h => exact ap3_21 h
  | 22, _, h => exact ap3_22 h
  | 23, _, h => exact ap3_23 h
  | 24, _, h => exact ap3_24 h
  | 25, _, h => exact ap3_25 hf h
  | 26, _, h => exact ap3_26 h
  | 27, _, h => exact ap3_27 h
  | 28, _, h => exact ap3_28 h
  | 29, _, h => exact ap3_29 h
  | 30, _, h => exact ap3_30 h
  | 31, _, h => exact ap3_31 h
  | 32, _, h => exact ap3_32 h
  | 33, _, h => exact ap3_33 h
  | 34, _, h => exact ap3_34 h
  | 35, _, h => exact ap3_35 h
  | 36, _, h => exact ap3_36 h
  | 37, _, h => exact ap3_37 h
  | 38, _, h => exact ap3_38 h
  | 39, _, h => exact ap3_39 h
  | 40, _, h => exact ap3_40 h
  | 41, _, h => exact ap3_41 h
  | 42, _, h => exact ap3_42 hf h
  | 43, _, h => exact ap3_43 h
  | 44, _, h => exact ap3_44 h
  | 45, _, h => exact ap3_45 h
  | 46, _, h => exact ap3_46 h
  | 47, _, h => exact ap3_47 h
  | 48, _, h => exact ap3_48 h
  | 49, _, h => exact ap3_49 h
  | 50, _, h => exact ap3_50 h
  | 51, _, h => exact ap3_51 h
  | 52, _, h => exact ap3_52 h
  | 53, _, h => exact ap3_53 h
  | 54, _, h => exact ap3_54 h
  | 55, _, h => exact ap3_55 h
  | 56, _, h => exact ap3_56 h
  | 57, _, h => exact ap3_57 h
  | 58, _, h => exact ap3_58 h
  | 59, _, h => exact ap3_59 hf h
  | 60, _, h => exact ap3_60 h
  | 61, _, h => exact ap3_61 hf h
  | 62, _, h => exact ap3_62 h
  | 63, _, h => exact ap3_63 h
  | 64, _, h => exact ap3_64 h
  | 65, _, h => exact ap3_65 h
  | 66, _, h => exact ap3_66 h
  | 67, _, h => exact ap3_67 hf h
  | 68, _, h => exact ap3_68 h
  | 69, _, h => exact ap3_69 hf h
  | 70, _, h => exact ap3_70 h
  | 71, _, h => exact ap3_71 h
  | 72, _, h => exact ap3_72 h
  | 73, _, h => exact ap3_73 h
  | 74, _, h => exact ap3_74 h
  | 75, _, h => exact ap3_75 hf h
  | 76, _, h => exact ap3_76 hf h
  | 77, _, h => exact ap3_77 h
  | 78, _, h => exact ap3_78 h
  | 79, _, h => exact ap3_79 h
  | 80, _, h => exact ap3_80 h
  | 81, _, h => exact ap3_81 h
  | 82, _, h => exact ap3_82 hf h
  | 83, _, h => exact ap3_83 hf h
  | 84, _, h => exact ap3_84 h
  | i + 85, h, _ => exact absurd h (by omega)
end
noncomputable def opsp17 : Array Oper := match Tryz.f13.body with | some b => (regionOf 17 b).getD #[] | none => #[]
noncomputable def Pp17 : Plan := ⟨opsp17, [223, 224, 225, 226, 227, 228, 229, 230, 231, 232, 233, 234, 235, 236, 237, 238, 239, 240, 241, 242, 243, 244, 245, 246, 247, 248, 2], 249, 27, [0, 4]⟩
theorem hpp17 : Pp17.Ok where
  size := Nat.le_of_eq (by kernel_rfl)
  dst := by
    have h : (List.range 27).all (fun i => (Pp17.at i).dst == some (Pp17.to i)) = true := by kernel_rfl
    intro i hi
    simpa using List.all_eq_true.1 h i (List.mem_range.2 hi)
  lt := by decide +kernel
  ne := by decide +kernel
  far := by decide +kernel
section
variable {M : Nat → Int} {b7 b16 b17 : Bool} {F G k cap : Nat} {w : World}
def pvp17 (F _k : Nat) : Nat → Value
  | 0 => pt F 0
  | 4 => pt F 0
  | _ => undef
def valsp17 (M : Nat → Int) (F _G _k _cap : Nat) : List Value := [pt F 0, pt F 0, pt F 14, vi (M 14), .bool true, .bool true, pt F 0, pt F 0, pt F 14, vi (M 14), .bool true, .bool true, .bool true, pt F 0, pt F 0, pt F 15, vi (M 15), .bool true, .bool true, .bool true, pt F 0, pt F 0, pt F 15, vi (M 15), .bool true, .bool true, .bool true]
def goodp17 (M : Nat → Int) (F G k cap : Nat) (j : Nat) (v : Value) : Prop := v = (valsp17 M F G k cap).getD j undef
abbrev Nowp17 (M : Nat → Int) (F G k cap : Nat) (w : World) := Pu Pp17 (pvp17 F k) (goodp17 M F G k cap) w
theorem ap17_0 {a : Act} {W : World} {Q : Exit → Act → World → Prop} (h : Nowp17 M F G k cap w 0 a W) : wpOp Tryz.prog Pp17.ops Q 0 (Nowp17 M F G k cap w (0 + 1)) a W :=
  h.run hpp17 (by decide) (want_none (by kernel_rfl)) (r_move a W _ (.tmp 4) _ (by kernel_rfl) (show a.eval (.tmp 4) = pt F 0 from h.pre 4 (by decide))) rfl
theorem ap17_1 {a : Act} {W : World} {Q : Exit → Act → World → Prop} (h : Nowp17 M F G k cap w 1 a W) : wpOp Tryz.prog Pp17.ops Q 1 (Nowp17 M F G k cap w (1 + 1)) a W :=
  h.run hpp17 (by decide) (want_none (by kernel_rfl)) (r_nil a W _ (.tmp 223) F 0 (by kernel_rfl) (show a.eval (.tmp 223) = pt F 0 from h.done 0 (by decide))) rfl
theorem ap17_2 {a : Act} {W : World} {Q : Exit → Act → World → Prop} (h : Nowp17 M F G k cap w 2 a W) : wpOp Tryz.prog Pp17.ops Q 2 (Nowp17 M F G k cap w (2 + 1)) a W :=
  h.run hpp17 (by decide) (want_none (by kernel_rfl)) (r_fa a W _ (.tmp 224) F 14 26 14 (by kernel_rfl) (show a.eval (.tmp 224) = pt F 0 from h.done 1 (by decide)) (fun w => by kernel_rfl)) rfl
theorem ap17_3 (hf : FileR M b7 b16 b17 F G k cap w) {a : Act} {W : World} {Q : Exit → Act → World → Prop} (h : Nowp17 M F G k cap w 3 a W) : wpOp Tryz.prog Pp17.ops Q 3 (Nowp17 M F G k cap w (3 + 1)) a W :=
  h.run hpp17 (by decide) (want_none (by kernel_rfl)) (r_ld a W _ (.tmp 225) F 14 3 _ _ (by kernel_rfl) (show a.eval (.tmp 225) = pt F 14 from h.done 2 (by decide)) (by rw [h.world]; exact hf.cells 14 _ rfl) Tryz.underlying3 rfl) rfl
theorem ap17_4 (hf : FileR M b7 b16 b17 F G k cap w) {a : Act} {W : World} {Q : Exit → Act → World → Prop} (h : Nowp17 M F G k cap w 4 a W) : wpOp Tryz.prog Pp17.ops Q 4 (Nowp17 M F G k cap w (4 + 1)) a W :=
  h.run hpp17 (by decide) (want_none (by kernel_rfl)) (r_geq a W _ (.tmp 226) (.const (.int .i64 1)) _ _ true (by kernel_rfl) (show a.eval (.tmp 226) = vi (M 14) from h.done 3 (by decide)) rfl (decide_eq_true (by have := hf.lim.weight; have := hf.lim.width; omega))) rfl
theorem ap17_5 {a : Act} {W : World} {Q : Exit → Act → World → Prop} (h : Nowp17 M F G k cap w 5 a W) : wpOp Tryz.prog Pp17.ops Q 5 (Nowp17 M F G k cap w (5 + 1)) a W :=
  h.run hpp17 (by decide) (want_none (by kernel_rfl)) (r_move a W _ (.tmp 227) _ (by kernel_rfl) (show a.eval (.tmp 227) = .bool true from h.done 4 (by decide))) rfl
theorem ap17_6 {a : Act} {W : World} {Q : Exit → Act → World → Prop} (h : Nowp17 M F G k cap w 6 a W) : wpOp Tryz.prog Pp17.ops Q 6 (Nowp17 M F G k cap w (6 + 1)) a W :=
  h.run hpp17 (by decide) ((want_of hpp17 h (g := 5) (b := true) (c := true) (by kernel_rfl) (by decide) (show a.eval (.tmp 228) = .bool true from h.done 5 (by decide))).trans rfl) (r_move a W _ (.tmp 4) _ (by kernel_rfl) (show a.eval (.tmp 4) = pt F 0 from h.pre 4 (by decide))) rfl
theorem ap17_7 {a : Act} {W : World} {Q : Exit → Act → World → Prop} (h : Nowp17 M F G k cap w 7 a W) : wpOp Tryz.prog Pp17.ops Q 7 (Nowp17 M F G k cap w (7 + 1)) a W :=
  h.run hpp17 (by decide) ((want_of hpp17 h (g := 5) (b := true) (c := true) (by kernel_rfl) (by decide) (show a.eval (.tmp 228) = .bool true from h.done 5 (by decide))).trans rfl) (r_nil a W _ (.tmp 229) F 0 (by kernel_rfl) (show a.eval (.tmp 229) = pt F 0 from h.done 6 (by decide))) rfl
theorem ap17_8 {a : Act} {W : World} {Q : Exit → Act → World → Prop} (h : Nowp17 M F G k cap w 8 a W) : wpOp Tryz.prog Pp17.ops Q 8 (Nowp17 M F G k cap w (8 + 1)) a W :=
  h.run hpp17 (by decide) ((want_of hpp17 h (g := 5) (b := true) (c := true) (by kernel_rfl) (by decide) (show a.eval (.tmp 228) = .bool true from h.done 5 (by decide))).trans rfl) (r_fa a W _ (.tmp 230) F 14 26 14 (by kernel_rfl) (show a.eval (.tmp 230) = pt F 0 from h.done 7 (by decide)) (fun w => by kernel_rfl)) rfl
theorem ap17_9 (hf : FileR M b7 b16 b17 F G k cap w) {a : Act} {W : World} {Q : Exit → Act → World → Prop} (h : Nowp17 M F G k cap w 9 a W) : wpOp Tryz.prog Pp17.ops Q 9 (Nowp17 M F G k cap w (9 + 1)) a W :=
  h.run hpp17 (by decide) ((want_of hpp17 h (g := 5) (b := true) (c := true) (by kernel_rfl) (by decide) (show a.eval (.tmp 228) = .bool true from h.done 5 (by decide))).trans rfl) (r_ld a W _ (.tmp 231) F 14 3 _ _ (by kernel_rfl) (show a.eval (.tmp 231) = pt F 14 from h.done 8 (by decide)) (by rw [h.world]; exact hf.cells 14 _ rfl) Tryz.underlying3 rfl) rfl
theorem ap17_10 (hf : FileR M b7 b16 b17 F G k cap w) {a : Act} {W : World} {Q : Exit → Act → World → Prop} (h : Nowp17 M F G k cap w 10 a W) : wpOp Tryz.prog Pp17.ops Q 10 (Nowp17 M F G k cap w (10 + 1)) a W :=
  h.run hpp17 (by decide) ((want_of hpp17 h (g := 5) (b := true) (c := true) (by kernel_rfl) (by decide) (show a.eval (.tmp 228) = .bool true from h.done 5 (by decide))).trans rfl) (r_leq a W _ (.tmp 232) (.const (.int .i64 1000)) _ _ true (by kernel_rfl) (show a.eval (.tmp 232) = vi (M 14) from h.done 9 (by decide)) rfl (decide_eq_true (by have := hf.lim.weight; have := hf.lim.width; omega))) rfl
theorem ap17_11 {a : Act} {W : World} {Q : Exit → Act → World → Prop} (h : Nowp17 M F G k cap w 11 a W) : wpOp Tryz.prog Pp17.ops Q 11 (Nowp17 M F G k cap w (11 + 1)) a W :=
  h.run hpp17 (by decide) (want_none (by kernel_rfl)) (r_pick a W _ (.tmp 228) (.tmp 233) (.const (.bool false)) true _ _ _ (by kernel_rfl) (show a.eval (.tmp 228) = .bool true from h.done 5 (by decide)) (show a.eval (.tmp 233) = .bool true from h.done 10 (by decide)) rfl rfl) rfl
theorem ap17_12 {a : Act} {W : World} {Q : Exit → Act → World → Prop} (h : Nowp17 M F G k cap w 12 a W) : wpOp Tryz.prog Pp17.ops Q 12 (Nowp17 M F G k cap w (12 + 1)) a W :=
  h.run hpp17 (by decide) (want_none (by kernel_rfl)) (r_move a W _ (.tmp 234) _ (by kernel_rfl) (show a.eval (.tmp 234) = .bool true from h.done 11 (by decide))) rfl
theorem ap17_13 {a : Act} {W : World} {Q : Exit → Act → World → Prop} (h : Nowp17 M F G k cap w 13 a W) : wpOp Tryz.prog Pp17.ops Q 13 (Nowp17 M F G k cap w (13 + 1)) a W :=
  h.run hpp17 (by decide) ((want_of hpp17 h (g := 12) (b := true) (c := true) (by kernel_rfl) (by decide) (show a.eval (.tmp 235) = .bool true from h.done 12 (by decide))).trans rfl) (r_move a W _ (.tmp 4) _ (by kernel_rfl) (show a.eval (.tmp 4) = pt F 0 from h.pre 4 (by decide))) rfl
theorem ap17_14 {a : Act} {W : World} {Q : Exit → Act → World → Prop} (h : Nowp17 M F G k cap w 14 a W) : wpOp Tryz.prog Pp17.ops Q 14 (Nowp17 M F G k cap w (14 + 1)) a W :=
  h.run hpp17 (by decide) ((want_of hpp17 h (g := 12) (b := true) (c := true) (by kernel_rfl) (by decide) (show a.eval (.tmp 235) = .bool true from h.done 12 (by decide))).trans rfl) (r_nil a W _ (.tmp 236) F 0 (by kernel_rfl) (show a.eval (.tmp 236) = pt F 0 from h.done 13 (by decide))) rfl
theorem ap17_15 {a : Act} {W : World} {Q : Exit → Act → World → Prop} (h : Nowp17 M F G k cap w 15 a W) : wpOp Tryz.prog Pp17.ops Q 15 (Nowp17 M F G k cap w (15 + 1)) a W :=
  h.run hpp17 (by decide) ((want_of hpp17 h (g := 12) (b := true) (c := true) (by kernel_rfl) (by decide) (show a.eval (.tmp 235) = .bool true from h.done 12 (by decide))).trans rfl) (r_fa a W _ (.tmp 237) F 15 26 15 (by kernel_rfl) (show a.eval (.tmp 237) = pt F 0 from h.done 14 (by decide)) (fun w => by kernel_rfl)) rfl
theorem ap17_16 (hf : FileR M b7 b16 b17 F G k cap w) {a : Act} {W : World} {Q : Exit → Act → World → Prop} (h : Nowp17 M F G k cap w 16 a W) : wpOp Tryz.prog Pp17.ops Q 16 (Nowp17 M F G k cap w (16 + 1)) a W :=
  h.run hpp17 (by decide) ((want_of hpp17 h (g := 12) (b := true) (c := true) (by kernel_rfl) (by decide) (show a.eval (.tmp 235) = .bool true from h.done 12 (by decide))).trans rfl) (r_ld a W _ (.tmp 238) F 15 3 _ _ (by kernel_rfl) (show a.eval (.tmp 238) = pt F 15 from h.done 15 (by decide)) (by rw [h.world]; exact hf.cells 15 _ rfl) Tryz.underlying3 rfl) rfl
theorem ap17_17 (hf : FileR M b7 b16 b17 F G k cap w) {a : Act} {W : World} {Q : Exit → Act → World → Prop} (h : Nowp17 M F G k cap w 17 a W) : wpOp Tryz.prog Pp17.ops Q 17 (Nowp17 M F G k cap w (17 + 1)) a W :=
  h.run hpp17 (by decide) ((want_of hpp17 h (g := 12) (b := true) (c := true) (by kernel_rfl) (by decide) (show a.eval (.tmp 235) = .bool true from h.done 12 (by decide))).trans rfl) (r_geq a W _ (.tmp 239) (.const (.int .i64 1)) _ _ true (by kernel_rfl) (show a.eval (.tmp 239) = vi (M 15) from h.done 16 (by decide)) rfl (decide_eq_true (by have := hf.lim.weight; have := hf.lim.width; omega))) rfl
theorem ap17_18 {a : Act} {W : World} {Q : Exit → Act → World → Prop} (h : Nowp17 M F G k cap w 18 a W) : wpOp Tryz.prog Pp17.ops Q 18 (Nowp17 M F G k cap w (18 + 1)) a W :=
  h.run hpp17 (by decide) (want_none (by kernel_rfl)) (r_pick a W _ (.tmp 235) (.tmp 240) (.const (.bool false)) true _ _ _ (by kernel_rfl) (show a.eval (.tmp 235) = .bool true from h.done 12 (by decide)) (show a.eval (.tmp 240) = .bool true from h.done 17 (by decide)) rfl rfl) rfl
theorem ap17_19 {a : Act} {W : World} {Q : Exit → Act → World → Prop} (h : Nowp17 M F G k cap w 19 a W) : wpOp Tryz.prog Pp17.ops Q 19 (Nowp17 M F G k cap w (19 + 1)) a W :=
  h.run hpp17 (by decide) (want_none (by kernel_rfl)) (r_move a W _ (.tmp 241) _ (by kernel_rfl) (show a.eval (.tmp 241) = .bool true from h.done 18 (by decide))) rfl
theorem ap17_20 {a : Act} {W : World} {Q : Exit → Act → World → Prop} (h : Nowp17 M F G k cap w 20 a W) : wpOp Tryz.prog Pp17.ops Q 20 (Nowp17 M F G k cap w (20 + 1)) a W :=
  h.run hpp17 (by decide) ((want_of hpp17 h (g := 19) (b := true) (c := true) (by kernel_rfl) (by decide) (show a.eval (.tmp 242) = .bool true from h.done 19 (by decide))).trans rfl) (r_move a W _ (.tmp 4) _ (by kernel_rfl) (show a.eval (.tmp 4) = pt F 0 from h.pre 4 (by decide))) rfl
theorem ap17_21 {a : Act} {W : World} {Q : Exit → Act → World → Prop} (h : Nowp17 M F G k cap w 21 a W) : wpOp Tryz.prog Pp17.ops Q 21 (Nowp17 M F G k cap w (21 + 1)) a W :=
  h.run hpp17 (by decide) ((want_of hpp17 h (g := 19) (b := true) (c := true) (by kernel_rfl) (by decide) (show a.eval (.tmp 242) = .bool true from h.done 19 (by decide))).trans rfl) (r_nil a W _ (.tmp 243) F 0 (by kernel_rfl) (show a.eval (.tmp 243) = pt F 0 from h.done 20 (by decide))) rfl
theorem ap17_22 {a : Act} {W : World} {Q : Exit → Act → World → Prop} (h : Nowp17 M F G k cap w 22 a W) : wpOp Tryz.prog Pp17.ops Q 22 (Nowp17 M F G k cap w (22 + 1)) a W :=
  h.run hpp17 (by decide) ((want_of hpp17 h (g := 19) (b := true) (c := true) (by kernel_rfl) (by decide) (show a.eval (.tmp 242) = .bool true from h.done 19 (by decide))).trans rfl) (r_fa a W _ (.tmp 244) F 15 26 15 (by kernel_rfl) (show a.eval (.tmp 244) = pt F 0 from h.done 21 (by decide)) (fun w => by kernel_rfl)) rfl
theorem ap17_23 (hf : FileR M b7 b16 b17 F G k cap w) {a : Act} {W : World} {Q : Exit → Act → World → Prop} (h : Nowp17 M F G k cap w 23 a W) : wpOp Tryz.prog Pp17.ops Q 23 (Nowp17 M F G k cap w (23 + 1)) a W :=
  h.run hpp17 (by decide) ((want_of hpp17 h (g := 19) (b := true) (c := true) (by kernel_rfl) (by decide) (show a.eval (.tmp 242) = .bool true from h.done 19 (by decide))).trans rfl) (r_ld a W _ (.tmp 245) F 15 3 _ _ (by kernel_rfl) (show a.eval (.tmp 245) = pt F 15 from h.done 22 (by decide)) (by rw [h.world]; exact hf.cells 15 _ rfl) Tryz.underlying3 rfl) rfl
theorem ap17_24 (hf : FileR M b7 b16 b17 F G k cap w) {a : Act} {W : World} {Q : Exit → Act → World → Prop} (h : Nowp17 M F G k cap w 24 a W) : wpOp Tryz.prog Pp17.ops Q 24 (Nowp17 M F G k cap w (24 + 1)) a W :=
  h.run hpp17 (by decide) ((want_of hpp17 h (g := 19) (b := true) (c := true) (by kernel_rfl) (by decide) (show a.eval (.tmp 242) = .bool true from h.done 19 (by decide))).trans rfl) (r_leq a W _ (.tmp 246) (.const (.int .i64 9)) _ _ true (by kernel_rfl) (show a.eval (.tmp 246) = vi (M 15) from h.done 23 (by decide)) rfl (decide_eq_true (by have := hf.lim.weight; have := hf.lim.width; omega))) rfl
theorem ap17_25 {a : Act} {W : World} {Q : Exit → Act → World → Prop} (h : Nowp17 M F G k cap w 25 a W) : wpOp Tryz.prog Pp17.ops Q 25 (Nowp17 M F G k cap w (25 + 1)) a W :=
  h.run hpp17 (by decide) (want_none (by kernel_rfl)) (r_pick a W _ (.tmp 242) (.tmp 247) (.const (.bool false)) true _ _ _ (by kernel_rfl) (show a.eval (.tmp 242) = .bool true from h.done 19 (by decide)) (show a.eval (.tmp 247) = .bool true from h.done 24 (by decide)) rfl rfl) rfl
theorem ap17_26 {a : Act} {W : World} {Q : Exit → Act → World → Prop} (h : Nowp17 M F G k cap w 26 a W) : wpOp Tryz.prog Pp17.ops Q 26 (Nowp17 M F G k cap w (26 + 1)) a W :=
  h.run hpp17 (by decide) (want_none (by kernel_rfl)) (r_assign a W _ (.tmp 248) _ (by kernel_rfl) (show a.eval (.tmp 248) = .bool true from h.done 25 (by decide))) rfl
theorem stepsp17 (hf : FileR M b7 b16 b17 F G k cap w) {Q : Exit → Act → World → Prop} (i : Nat) (hi : i < Pp17.n) (a : Act) (W : World) (h : Nowp17 M F G k cap w i a W) : wpOp Tryz.prog Pp17.ops Q i (Nowp17 M F G k cap w (i + 1)) a W := by
  have hi' : i < 27 := hi
  clear hi
  match i, hi', h with
  | 0, _, h => exact ap17_0 h
  | 1, _, h => exact ap17_1 h
  | 2, _, h => exact ap17_2 h
  | 3, _, h => exact ap17_3 hf h
  | 4, _, h => exact ap17_4 hf h
  | 5, _, h => exact ap17_5 h
  | 6, _, h => exact ap17_6 h
  | 7, _, h => exact ap17_7 h
  | 8, _, h => exact ap17_8 h
  | 9, _, h => exact ap17_9 hf h
  | 10, _, h => exact ap17_10 hf h
  | 11, _, h => exact ap17_11 h
  | 12, _, h => exact ap17_12 h
  | 13, _, h => exact ap17_13 h
  | 14, _, h => exact ap17_14 h
  | 15, _, h => exact ap17_15 h
  | 16, _, h => exact ap17_16 hf h
  | 17, _, h => exact ap17_17 hf h
  | 18, _, h => exact ap17_18 h
  | 19, _, h => exact ap17_19 h
  | 20, _, h => exact ap17_20 h
  | 21, _, h => exact ap17_21 h
  | 22, _, h => exact ap17_22 h
  | 23, _, h => exact ap17_23 hf h
  | 24, _, h => exact ap17_24 hf h
  | 25, _, h => exact ap17_25 h
  | 26, _, h => exact ap17_26 h
  | i + 27, h, _ => exact absurd h (by omega)
end
end Go.Proofs.YtgggpllmgnpngaaGreatDoor.Tb
