/- A file's parts made of any numbers: the numbers. -/
import Derived.Test.YtgggpllmgnpngaaGreatDoorTbFileR
import Derived.Test.YtgggpllmgnpngaaGreatDoorTbSeq
import Derived.Test.YtgggpllmgnpngaaGreatDoorTbCtx
namespace Go.Proofs.YtgggpllmgnpngaaGreatDoor.Tb
open Go Go.RowKit

def at10 (B : Nat) : Value := .func (.func 10) #[] #[.pointer (some ⟨B, 0, none⟩)]
def at11 : Value := .func (.func 11) #[] #[]
def Within (lo hi : Int) (v : Value) : Prop := ∃ x, v = vi x ∧ lo ≤ x ∧ x ≤ hi
def IsInt (v : Value) : Prop := ∃ x, v = vi x
def IsBool (v : Value) : Prop := ∃ b, v = .bool b
def metCells (M : Nat → Int) (b7 b16 b17 : Bool) : List Value := [.int .i64 (M 0), .int .i64 (M 1), .int .i64 (M 2), .int .i64 (M 3), .int .i64 (M 4), .int .i64 (M 5), .int .i64 (M 6), .bool b7, .int .i64 (M 8), .int .i64 (M 9), .int .i64 (M 10), .int .i64 (M 11), .int .i64 (M 12), .int .i64 (M 13), .int .i64 (M 14), .int .i64 (M 15), .bool b16, .bool b17, .int .i64 (M 18), .int .i64 (M 19), .int .i64 (M 20), .int .i64 (M 21), .int .i64 (M 22), .int .i64 (M 23), .int .i64 (M 24), .int .i64 (M 25)]
def IsMet (v : Value) : Prop := ∃ (M : Nat → Int) (b7 b16 b17 : Bool), Lims M ∧ v = .agg (metCells M b7 b16 b17).toArray
def IsFil (v : Value) : Prop := ∃ (M : Nat → Int) (b7 b16 b17 : Bool), Lims M ∧ v = .agg (fileCells M b7 b16 b17 vnil (vi 0))

noncomputable def ops4 : Array Oper := match Tryz.f4.body with | some b => (regionOf 3 b).getD #[] | none => #[]
noncomputable def P4 : Plan := ⟨ops4, [21, 22, 23, 24, 25, 26, 27, 28, 29, 30, 31, 32, 33, 34, 35, 36, 37, 38, 39, 40, 41, 42, 43, 44, 45, 46, 47, 48, 49, 50, 51, 52, 53, 54, 55, 56, 57, 58, 59, 60, 61, 62, 63, 64, 65, 66, 67, 68, 69, 70, 71, 72, 73, 74, 75, 76, 77, 78, 79, 80, 81, 82, 83, 84, 85, 86, 87, 88, 89, 90, 91, 92], 207, 72, [1, 2, 3, 4, 5, 6, 12, 13, 14]⟩
theorem hp4 : P4.Ok where
  size := by
    have h : P4.ops.size = 74 := by kernel_rfl
    rw [h]
    exact (by decide : 72 ≤ 74)
  dst := by
    have h : (List.range 72).all (fun i => (P4.at i).dst == some (P4.to i)) = true := by kernel_rfl
    intro i hi
    simpa using List.all_eq_true.1 h i (List.mem_range.2 hi)
  lt := by decide +kernel
  ne := by decide +kernel
  far := by decide +kernel
def pv4 (A1 : Option Addr) (n1 c1 B : Nat) : Nat → Value
  | 1 => .slice A1 n1 c1
  | 2 => vnil
  | 3 => .int .u8 0
  | 4 => vnil
  | 5 => vnil
  | 6 => pt B 0
  | 12 => pt (B + 1) 0
  | 13 => at10 B
  | 14 => at11
  | _ => undef
def goods4 (B : Nat) : List (Value → Prop) := [fun v => v = at11, fun v => v = at10 B, fun v => Within (-8192) 8192 v, fun v => Within 0 8192 v, fun v => Within 0 3999 v, fun v => Within 16 (16 + 3999) v, fun v => v = at10 B, fun v => Within (-8192) 8192 v, fun v => v = at10 B, fun v => Within (-8192) 8192 v, fun v => v = at10 B, fun v => Within (-8192) 8192 v, fun v => v = at10 B, fun v => Within (-8192) 8192 v, fun v => v = at10 B, fun v => Within (-8192) 8192 v, fun v => v = at10 B, fun v => Within (-8192) 8192 v, fun v => v = at10 B, fun v => Within (-8192) 8192 v, fun v => IsInt v, fun v => IsBool v, fun v => v = at10 B, fun v => Within (-8192) 8192 v, fun v => v = at10 B, fun v => Within (-8192) 8192 v, fun v => v = at10 B, fun v => Within (-8192) 8192 v, fun v => v = at10 B, fun v => Within (-8192) 8192 v, fun v => v = at10 B, fun v => Within (-8192) 8192 v, fun v => v = at10 B, fun v => Within (-8192) 8192 v, fun v => v = at11, fun v => v = at10 B, fun v => Within (-8192) 8192 v, fun v => Within 0 8192 v, fun v => Within 0 999 v, fun v => Within 1 (1 + 999) v, fun v => v = at11, fun v => v = at10 B, fun v => Within (-8192) 8192 v, fun v => Within 0 8192 v, fun v => Within 0 8 v, fun v => Within 1 (1 + 8) v, fun v => v = at10 B, fun v => Within (-8192) 8192 v, fun v => IsInt v, fun v => IsBool v, fun v => v = at10 B, fun v => Within (-8192) 8192 v, fun v => IsInt v, fun v => IsBool v, fun v => v = at10 B, fun v => Within (-8192) 8192 v, fun v => v = at10 B, fun v => Within (-8192) 8192 v, fun v => v = at10 B, fun v => Within (-8192) 8192 v, fun v => v = at10 B, fun v => Within (-8192) 8192 v, fun v => v = at10 B, fun v => Within (-8192) 8192 v, fun v => v = at10 B, fun v => Within (-8192) 8192 v, fun v => v = at10 B, fun v => Within (-8192) 8192 v, fun v => v = at10 B, fun v => Within (-8192) 8192 v, fun v => IsMet v, fun v => IsFil v]
def good4 (B : Nat) (j : Nat) (v : Value) : Prop := (goods4 B).getD j (fun _ => True) v
abbrev Now4 (A1 : Option Addr) (n1 c1 B : Nat) (w : World) := Pu P4 (pv4 A1 n1 c1 B) (good4 B) w

theorem bd_eq {t : TypeId} {w : World} {p q : Array (Nat × Value)} {r : Result Value} (e : p = q) (h : (Instr.build t q).run Tryz.prog w = r) : (Instr.build t p).run Tryz.prog w = r := by rw [e]; exact h
section
variable {A1 : Option Addr} {n1 c1 B : Nat} {w : World} {i : Nat} {a : Act} {W : World} {Q : Exit → Act → World → Prop}
theorem c_at (HAT : ∀ (i : Int), 0 ≤ i → i < 100 → Calls Tryz.prog 10 #[.int .i64 i, .pointer (some ⟨B, 0, none⟩)] w fun e w' => (∃ x, e = .returned (.int .i64 x) ∧ -8192 ≤ x ∧ x ≤ 8192) ∧ w = w')
    (h : Now4 A1 n1 c1 B w i a W) (hi : i < P4.n) (q s : Nat) (ts : Array TypeId) (hop : (P4.at i).op = .call { callee := .value (.tmp s), args := #[.const (.int .i64 q)], argTypes := ts }) (hg : (P4.at i).guard = none) (hs : a.eval (.tmp s) = at10 B) (hq : q < 100) (hk : ∀ v, Within (-8192) 8192 v → good4 B i v) : wpOp Tryz.prog P4.ops Q i (Now4 A1 n1 c1 B w (i + 1)) a W := by
  have hr : (execOp a.eval (P4.at i)).run Tryz.prog W = .ok (.enter 10 #[.int .i64 q, .pointer (some ⟨B, 0, none⟩)]) W := by
    unfold execOp
    rw [hop]
    have hc : a.eval (.const (.int .i64 q)) = .int .i64 q := rfl
    simp [resolve, hs, at10, Deferred.ofValue, invoke, hc]
  refine h.call hp4 hi (want_none hg) hr ?_
  have hw := h.world
  subst hw
  refine (HAT q (by omega) (by omega)).mono ?_
  rintro e w' ⟨⟨x, rfl, h1, h2⟩, hw⟩
  exact ⟨⟨_, rfl, hk _ ⟨x, rfl, h1, h2⟩⟩, hw⟩
theorem c_abs (h : Now4 A1 n1 c1 B w i a W) (hi : i < P4.n) (x s : Nat) (ts : Array TypeId) (hop : (P4.at i).op = .call { callee := .value (.tmp s), args := #[.tmp x], argTypes := ts }) (hg : (P4.at i).guard = none) (hs : a.eval (.tmp s) = at11) (hx : Within (-8192) 8192 (a.eval (.tmp x))) (hk : ∀ v, Within 0 8192 v → good4 B i v) : wpOp Tryz.prog P4.ops Q i (Now4 A1 n1 c1 B w (i + 1)) a W := by
  obtain ⟨y, ey, y1, y2⟩ := hx
  have hr : (execOp a.eval (P4.at i)).run Tryz.prog W = .ok (.enter 11 #[.int .i64 y]) W := by
    unfold execOp
    rw [hop]
    simp [resolve, hs, at11, Deferred.ofValue, invoke, ey]
  refine h.call hp4 hi (want_none hg) hr ?_
  refine (abs_any y W ⟨y1, y2⟩).mono ?_
  rintro e w' ⟨⟨x, rfl, h1, h2⟩, hw⟩
  exact ⟨⟨_, rfl, hk _ ⟨x, rfl, h1, h2⟩⟩, hw⟩
theorem r_rem (x : Operand) (p q : Int) (o : Oper) (ho : o.op = .binOp .rem 3 x (.const (.int .i64 q)) 3) (hx : a.eval x = .int .i64 p) (hq : 0 < q) : (execOp a.eval o).run Tryz.prog W = .ok (.value (.int .i64 (p.tmod q))) W := by
  have hne : ¬ q = 0 := by omega
  unfold execOp; rw [ho]; dsimp only; rw [hx]
  simp [eqGuard, binOp, Act.eval, Op.intDiv, hne]
theorem r_add (y : Operand) (p q : Int) (o : Oper) (ho : o.op = .binOp .add 3 (.const (.int .i64 p)) y 3) (hy : a.eval y = .int .i64 q) (hp : 0 ≤ p ∧ p < 100000) (hq : 0 ≤ q ∧ q < 100000) : (execOp a.eval o).run Tryz.prog W = .ok (.value (.int .i64 (p + q))) W := by
  have hw : IntKind.i64.wrap (p + q) = p + q := IntWalk.i64_in _ (by omega)
  unfold execOp; rw [ho]; dsimp only; rw [hy]
  simp [eqGuard, binOp, Act.eval, Op.intArith, hw]
theorem c_rem (h : Now4 A1 n1 c1 B w i a W) (hi : i < P4.n) (x : Nat) (q : Int) (hop : (P4.at i).op = .binOp .rem 3 (.tmp x) (.const (.int .i64 q)) 3) (hg : (P4.at i).guard = none) (h0 : 0 < q) (hx : Within 0 8192 (a.eval (.tmp x))) (hk : ∀ v, Within 0 (q - 1) v → good4 B i v) : wpOp Tryz.prog P4.ops Q i (Now4 A1 n1 c1 B w (i + 1)) a W := by
  obtain ⟨y, ey, y1, y2⟩ := hx
  refine h.run hp4 hi (want_none hg) (r_rem (.tmp x) y q _ hop ey h0) (hk _ ⟨_, rfl, ?_, ?_⟩)
  · exact Int.tmod_nonneg _ y1
  · have := Int.tmod_lt_of_pos y h0; omega
theorem c_rem2 (h : Now4 A1 n1 c1 B w i a W) (hi : i < P4.n) (x : Nat) (hop : (P4.at i).op = .binOp .rem 3 (.tmp x) (.const (.int .i64 2)) 3) (hg : (P4.at i).guard = none) (hx : Within (-8192) 8192 (a.eval (.tmp x))) (hk : ∀ v, IsInt v → good4 B i v) : wpOp Tryz.prog P4.ops Q i (Now4 A1 n1 c1 B w (i + 1)) a W := by
  obtain ⟨y, ey, y1, y2⟩ := hx
  exact h.run hp4 hi (want_none hg) (r_rem (.tmp x) y 2 _ hop ey (by decide)) (hk _ ⟨_, rfl⟩)
theorem c_add (h : Now4 A1 n1 c1 B w i a W) (hi : i < P4.n) (x : Nat) (q b : Int) (hop : (P4.at i).op = .binOp .add 3 (.const (.int .i64 q)) (.tmp x) 3) (hg : (P4.at i).guard = none) (h0 : 0 ≤ q ∧ q < 100000) (h1 : b < 100000) (hx : Within 0 b (a.eval (.tmp x))) (hk : ∀ v, Within q (q + b) v → good4 B i v) : wpOp Tryz.prog P4.ops Q i (Now4 A1 n1 c1 B w (i + 1)) a W := by
  obtain ⟨y, ey, y1, y2⟩ := hx
  exact h.run hp4 hi (want_none hg) (r_add (.tmp x) q y _ hop ey h0 (by omega)) (hk _ ⟨_, rfl, by omega, by omega⟩)
theorem c_neq (h : Now4 A1 n1 c1 B w i a W) (hi : i < P4.n) (x : Nat) (hop : (P4.at i).op = .binOp .neq 3 (.tmp x) (.const (.int .i64 0)) 3) (hg : (P4.at i).guard = none) (hx : IsInt (a.eval (.tmp x))) (hk : ∀ v, IsBool v → good4 B i v) : wpOp Tryz.prog P4.ops Q i (Now4 A1 n1 c1 B w (i + 1)) a W := by
  obtain ⟨y, ey⟩ := hx
  exact h.run hp4 hi (want_none hg) (r_neq a W _ (.tmp x) (.const (.int .i64 0)) y 0 _ hop ey rfl rfl) (hk _ ⟨_, rfl⟩)
end
section
variable {A1 : Option Addr} {n1 c1 B : Nat} {w : World}
theorem a4_0 {a : Act} {W : World} {Q : Exit → Act → World → Prop} (h : Now4 A1 n1 c1 B w 0 a W) : wpOp Tryz.prog P4.ops Q 0 (Now4 A1 n1 c1 B w (0 + 1)) a W :=
  h.run hp4 (by decide) (want_none (by kernel_rfl)) (r_move a W _ (.tmp 14) _ (by kernel_rfl) (show a.eval (.tmp 14) = at11 from h.pre 14 (by decide))) rfl
theorem a4_1 {a : Act} {W : World} {Q : Exit → Act → World → Prop} (h : Now4 A1 n1 c1 B w 1 a W) : wpOp Tryz.prog P4.ops Q 1 (Now4 A1 n1 c1 B w (1 + 1)) a W :=
  h.run hp4 (by decide) (want_none (by kernel_rfl)) (r_move a W _ (.tmp 13) _ (by kernel_rfl) (show a.eval (.tmp 13) = at10 B from h.pre 13 (by decide))) rfl
theorem a4_2 (HAT : ∀ (i : Int), 0 ≤ i → i < 100 → Calls Tryz.prog 10 #[.int .i64 i, .pointer (some ⟨B, 0, none⟩)] w fun e w' => (∃ x, e = .returned (.int .i64 x) ∧ -8192 ≤ x ∧ x ≤ 8192) ∧ w = w') {a : Act} {W : World} {Q : Exit → Act → World → Prop} (h : Now4 A1 n1 c1 B w 2 a W) : wpOp Tryz.prog P4.ops Q 2 (Now4 A1 n1 c1 B w (2 + 1)) a W :=
  c_at HAT h (by decide) 0 22 #[3] (by kernel_rfl) (by kernel_rfl) (show a.eval (.tmp 22) = at10 B from h.done 1 (by decide)) (by decide) (fun v hv => hv)
theorem a4_3 {a : Act} {W : World} {Q : Exit → Act → World → Prop} (h : Now4 A1 n1 c1 B w 3 a W) : wpOp Tryz.prog P4.ops Q 3 (Now4 A1 n1 c1 B w (3 + 1)) a W :=
  c_abs h (by decide) 23 21 #[3] (by kernel_rfl) (by kernel_rfl) (show a.eval (.tmp 21) = at11 from h.done 0 (by decide)) (show Within (-8192) 8192 (a.eval (.tmp 23)) from h.done 2 (by decide)) (fun v hv => hv)
theorem a4_4 {a : Act} {W : World} {Q : Exit → Act → World → Prop} (h : Now4 A1 n1 c1 B w 4 a W) : wpOp Tryz.prog P4.ops Q 4 (Now4 A1 n1 c1 B w (4 + 1)) a W :=
  c_rem h (by decide) 24 4000 (by kernel_rfl) (by kernel_rfl) (by decide) (show Within 0 8192 (a.eval (.tmp 24)) from h.done 3 (by decide)) (fun v hv => hv)
theorem a4_5 {a : Act} {W : World} {Q : Exit → Act → World → Prop} (h : Now4 A1 n1 c1 B w 5 a W) : wpOp Tryz.prog P4.ops Q 5 (Now4 A1 n1 c1 B w (5 + 1)) a W :=
  c_add h (by decide) 25 16 3999 (by kernel_rfl) (by kernel_rfl) (by decide) (by decide) (show Within 0 3999 (a.eval (.tmp 25)) from h.done 4 (by decide)) (fun v hv => hv)
theorem a4_6 {a : Act} {W : World} {Q : Exit → Act → World → Prop} (h : Now4 A1 n1 c1 B w 6 a W) : wpOp Tryz.prog P4.ops Q 6 (Now4 A1 n1 c1 B w (6 + 1)) a W :=
  h.run hp4 (by decide) (want_none (by kernel_rfl)) (r_move a W _ (.tmp 13) _ (by kernel_rfl) (show a.eval (.tmp 13) = at10 B from h.pre 13 (by decide))) rfl
theorem a4_7 (HAT : ∀ (i : Int), 0 ≤ i → i < 100 → Calls Tryz.prog 10 #[.int .i64 i, .pointer (some ⟨B, 0, none⟩)] w fun e w' => (∃ x, e = .returned (.int .i64 x) ∧ -8192 ≤ x ∧ x ≤ 8192) ∧ w = w') {a : Act} {W : World} {Q : Exit → Act → World → Prop} (h : Now4 A1 n1 c1 B w 7 a W) : wpOp Tryz.prog P4.ops Q 7 (Now4 A1 n1 c1 B w (7 + 1)) a W :=
  c_at HAT h (by decide) 1 27 #[3] (by kernel_rfl) (by kernel_rfl) (show a.eval (.tmp 27) = at10 B from h.done 6 (by decide)) (by decide) (fun v hv => hv)
theorem a4_8 {a : Act} {W : World} {Q : Exit → Act → World → Prop} (h : Now4 A1 n1 c1 B w 8 a W) : wpOp Tryz.prog P4.ops Q 8 (Now4 A1 n1 c1 B w (8 + 1)) a W :=
  h.run hp4 (by decide) (want_none (by kernel_rfl)) (r_move a W _ (.tmp 13) _ (by kernel_rfl) (show a.eval (.tmp 13) = at10 B from h.pre 13 (by decide))) rfl
theorem a4_9 (HAT : ∀ (i : Int), 0 ≤ i → i < 100 → Calls Tryz.prog 10 #[.int .i64 i, .pointer (some ⟨B, 0, none⟩)] w fun e w' => (∃ x, e = .returned (.int .i64 x) ∧ -8192 ≤ x ∧ x ≤ 8192) ∧ w = w') {a : Act} {W : World} {Q : Exit → Act → World → Prop} (h : Now4 A1 n1 c1 B w 9 a W) : wpOp Tryz.prog P4.ops Q 9 (Now4 A1 n1 c1 B w (9 + 1)) a W :=
  c_at HAT h (by decide) 2 29 #[3] (by kernel_rfl) (by kernel_rfl) (show a.eval (.tmp 29) = at10 B from h.done 8 (by decide)) (by decide) (fun v hv => hv)
theorem a4_10 {a : Act} {W : World} {Q : Exit → Act → World → Prop} (h : Now4 A1 n1 c1 B w 10 a W) : wpOp Tryz.prog P4.ops Q 10 (Now4 A1 n1 c1 B w (10 + 1)) a W :=
  h.run hp4 (by decide) (want_none (by kernel_rfl)) (r_move a W _ (.tmp 13) _ (by kernel_rfl) (show a.eval (.tmp 13) = at10 B from h.pre 13 (by decide))) rfl
theorem a4_11 (HAT : ∀ (i : Int), 0 ≤ i → i < 100 → Calls Tryz.prog 10 #[.int .i64 i, .pointer (some ⟨B, 0, none⟩)] w fun e w' => (∃ x, e = .returned (.int .i64 x) ∧ -8192 ≤ x ∧ x ≤ 8192) ∧ w = w') {a : Act} {W : World} {Q : Exit → Act → World → Prop} (h : Now4 A1 n1 c1 B w 11 a W) : wpOp Tryz.prog P4.ops Q 11 (Now4 A1 n1 c1 B w (11 + 1)) a W :=
  c_at HAT h (by decide) 3 31 #[3] (by kernel_rfl) (by kernel_rfl) (show a.eval (.tmp 31) = at10 B from h.done 10 (by decide)) (by decide) (fun v hv => hv)
theorem a4_12 {a : Act} {W : World} {Q : Exit → Act → World → Prop} (h : Now4 A1 n1 c1 B w 12 a W) : wpOp Tryz.prog P4.ops Q 12 (Now4 A1 n1 c1 B w (12 + 1)) a W :=
  h.run hp4 (by decide) (want_none (by kernel_rfl)) (r_move a W _ (.tmp 13) _ (by kernel_rfl) (show a.eval (.tmp 13) = at10 B from h.pre 13 (by decide))) rfl
theorem a4_13 (HAT : ∀ (i : Int), 0 ≤ i → i < 100 → Calls Tryz.prog 10 #[.int .i64 i, .pointer (some ⟨B, 0, none⟩)] w fun e w' => (∃ x, e = .returned (.int .i64 x) ∧ -8192 ≤ x ∧ x ≤ 8192) ∧ w = w') {a : Act} {W : World} {Q : Exit → Act → World → Prop} (h : Now4 A1 n1 c1 B w 13 a W) : wpOp Tryz.prog P4.ops Q 13 (Now4 A1 n1 c1 B w (13 + 1)) a W :=
  c_at HAT h (by decide) 4 33 #[3] (by kernel_rfl) (by kernel_rfl) (show a.eval (.tmp 33) = at10 B from h.done 12 (by decide)) (by decide) (fun v hv => hv)
theorem a4_14 {a : Act} {W : World} {Q : Exit → Act → World → Prop} (h : Now4 A1 n1 c1 B w 14 a W) : wpOp Tryz.prog P4.ops Q 14 (Now4 A1 n1 c1 B w (14 + 1)) a W :=
  h.run hp4 (by decide) (want_none (by kernel_rfl)) (r_move a W _ (.tmp 13) _ (by kernel_rfl) (show a.eval (.tmp 13) = at10 B from h.pre 13 (by decide))) rfl
theorem a4_15 (HAT : ∀ (i : Int), 0 ≤ i → i < 100 → Calls Tryz.prog 10 #[.int .i64 i, .pointer (some ⟨B, 0, none⟩)] w fun e w' => (∃ x, e = .returned (.int .i64 x) ∧ -8192 ≤ x ∧ x ≤ 8192) ∧ w = w') {a : Act} {W : World} {Q : Exit → Act → World → Prop} (h : Now4 A1 n1 c1 B w 15 a W) : wpOp Tryz.prog P4.ops Q 15 (Now4 A1 n1 c1 B w (15 + 1)) a W :=
  c_at HAT h (by decide) 5 35 #[3] (by kernel_rfl) (by kernel_rfl) (show a.eval (.tmp 35) = at10 B from h.done 14 (by decide)) (by decide) (fun v hv => hv)
theorem a4_16 {a : Act} {W : World} {Q : Exit → Act → World → Prop} (h : Now4 A1 n1 c1 B w 16 a W) : wpOp Tryz.prog P4.ops Q 16 (Now4 A1 n1 c1 B w (16 + 1)) a W :=
  h.run hp4 (by decide) (want_none (by kernel_rfl)) (r_move a W _ (.tmp 13) _ (by kernel_rfl) (show a.eval (.tmp 13) = at10 B from h.pre 13 (by decide))) rfl
theorem a4_17 (HAT : ∀ (i : Int), 0 ≤ i → i < 100 → Calls Tryz.prog 10 #[.int .i64 i, .pointer (some ⟨B, 0, none⟩)] w fun e w' => (∃ x, e = .returned (.int .i64 x) ∧ -8192 ≤ x ∧ x ≤ 8192) ∧ w = w') {a : Act} {W : World} {Q : Exit → Act → World → Prop} (h : Now4 A1 n1 c1 B w 17 a W) : wpOp Tryz.prog P4.ops Q 17 (Now4 A1 n1 c1 B w (17 + 1)) a W :=
  c_at HAT h (by decide) 6 37 #[3] (by kernel_rfl) (by kernel_rfl) (show a.eval (.tmp 37) = at10 B from h.done 16 (by decide)) (by decide) (fun v hv => hv)
theorem a4_18 {a : Act} {W : World} {Q : Exit → Act → World → Prop} (h : Now4 A1 n1 c1 B w 18 a W) : wpOp Tryz.prog P4.ops Q 18 (Now4 A1 n1 c1 B w (18 + 1)) a W :=
  h.run hp4 (by decide) (want_none (by kernel_rfl)) (r_move a W _ (.tmp 13) _ (by kernel_rfl) (show a.eval (.tmp 13) = at10 B from h.pre 13 (by decide))) rfl
theorem a4_19 (HAT : ∀ (i : Int), 0 ≤ i → i < 100 → Calls Tryz.prog 10 #[.int .i64 i, .pointer (some ⟨B, 0, none⟩)] w fun e w' => (∃ x, e = .returned (.int .i64 x) ∧ -8192 ≤ x ∧ x ≤ 8192) ∧ w = w') {a : Act} {W : World} {Q : Exit → Act → World → Prop} (h : Now4 A1 n1 c1 B w 19 a W) : wpOp Tryz.prog P4.ops Q 19 (Now4 A1 n1 c1 B w (19 + 1)) a W :=
  c_at HAT h (by decide) 7 39 #[3] (by kernel_rfl) (by kernel_rfl) (show a.eval (.tmp 39) = at10 B from h.done 18 (by decide)) (by decide) (fun v hv => hv)
theorem a4_20 {a : Act} {W : World} {Q : Exit → Act → World → Prop} (h : Now4 A1 n1 c1 B w 20 a W) : wpOp Tryz.prog P4.ops Q 20 (Now4 A1 n1 c1 B w (20 + 1)) a W :=
  c_rem2 h (by decide) 40 (by kernel_rfl) (by kernel_rfl) (show Within (-8192) 8192 (a.eval (.tmp 40)) from h.done 19 (by decide)) (fun v hv => hv)
theorem a4_21 {a : Act} {W : World} {Q : Exit → Act → World → Prop} (h : Now4 A1 n1 c1 B w 21 a W) : wpOp Tryz.prog P4.ops Q 21 (Now4 A1 n1 c1 B w (21 + 1)) a W :=
  c_neq h (by decide) 41 (by kernel_rfl) (by kernel_rfl) (show IsInt (a.eval (.tmp 41)) from h.done 20 (by decide)) (fun v hv => hv)
theorem a4_22 {a : Act} {W : World} {Q : Exit → Act → World → Prop} (h : Now4 A1 n1 c1 B w 22 a W) : wpOp Tryz.prog P4.ops Q 22 (Now4 A1 n1 c1 B w (22 + 1)) a W :=
  h.run hp4 (by decide) (want_none (by kernel_rfl)) (r_move a W _ (.tmp 13) _ (by kernel_rfl) (show a.eval (.tmp 13) = at10 B from h.pre 13 (by decide))) rfl
theorem a4_23 (HAT : ∀ (i : Int), 0 ≤ i → i < 100 → Calls Tryz.prog 10 #[.int .i64 i, .pointer (some ⟨B, 0, none⟩)] w fun e w' => (∃ x, e = .returned (.int .i64 x) ∧ -8192 ≤ x ∧ x ≤ 8192) ∧ w = w') {a : Act} {W : World} {Q : Exit → Act → World → Prop} (h : Now4 A1 n1 c1 B w 23 a W) : wpOp Tryz.prog P4.ops Q 23 (Now4 A1 n1 c1 B w (23 + 1)) a W :=
  c_at HAT h (by decide) 8 43 #[3] (by kernel_rfl) (by kernel_rfl) (show a.eval (.tmp 43) = at10 B from h.done 22 (by decide)) (by decide) (fun v hv => hv)
theorem a4_24 {a : Act} {W : World} {Q : Exit → Act → World → Prop} (h : Now4 A1 n1 c1 B w 24 a W) : wpOp Tryz.prog P4.ops Q 24 (Now4 A1 n1 c1 B w (24 + 1)) a W :=
  h.run hp4 (by decide) (want_none (by kernel_rfl)) (r_move a W _ (.tmp 13) _ (by kernel_rfl) (show a.eval (.tmp 13) = at10 B from h.pre 13 (by decide))) rfl
theorem a4_25 (HAT : ∀ (i : Int), 0 ≤ i → i < 100 → Calls Tryz.prog 10 #[.int .i64 i, .pointer (some ⟨B, 0, none⟩)] w fun e w' => (∃ x, e = .returned (.int .i64 x) ∧ -8192 ≤ x ∧ x ≤ 8192) ∧ w = w') {a : Act} {W : World} {Q : Exit → Act → World → Prop} (h : Now4 A1 n1 c1 B w 25 a W) : wpOp Tryz.prog P4.ops Q 25 (Now4 A1 n1 c1 B w (25 + 1)) a W :=
  c_at HAT h (by decide) 9 45 #[3] (by kernel_rfl) (by kernel_rfl) (show a.eval (.tmp 45) = at10 B from h.done 24 (by decide)) (by decide) (fun v hv => hv)
theorem a4_26 {a : Act} {W : World} {Q : Exit → Act → World → Prop} (h : Now4 A1 n1 c1 B w 26 a W) : wpOp Tryz.prog P4.ops Q 26 (Now4 A1 n1 c1 B w (26 + 1)) a W :=
  h.run hp4 (by decide) (want_none (by kernel_rfl)) (r_move a W _ (.tmp 13) _ (by kernel_rfl) (show a.eval (.tmp 13) = at10 B from h.pre 13 (by decide))) rfl
theorem a4_27 (HAT : ∀ (i : Int), 0 ≤ i → i < 100 → Calls Tryz.prog 10 #[.int .i64 i, .pointer (some ⟨B, 0, none⟩)] w fun e w' => (∃ x, e = .returned (.int .i64 x) ∧ -8192 ≤ x ∧ x ≤ 8192) ∧ w = w') {a : Act} {W : World} {Q : Exit → Act → World → Prop} (h : Now4 A1 n1 c1 B w 27 a W) : wpOp Tryz.prog P4.ops Q 27 (Now4 A1 n1 c1 B w (27 + 1)) a W :=
  c_at HAT h (by decide) 10 47 #[3] (by kernel_rfl) (by kernel_rfl) (show a.eval (.tmp 47) = at10 B from h.done 26 (by decide)) (by decide) (fun v hv => hv)
theorem a4_28 {a : Act} {W : World} {Q : Exit → Act → World → Prop} (h : Now4 A1 n1 c1 B w 28 a W) : wpOp Tryz.prog P4.ops Q 28 (Now4 A1 n1 c1 B w (28 + 1)) a W :=
  h.run hp4 (by decide) (want_none (by kernel_rfl)) (r_move a W _ (.tmp 13) _ (by kernel_rfl) (show a.eval (.tmp 13) = at10 B from h.pre 13 (by decide))) rfl
theorem a4_29 (HAT : ∀ (i : Int), 0 ≤ i → i < 100 → Calls Tryz.prog 10 #[.int .i64 i, .pointer (some ⟨B, 0, none⟩)] w fun e w' => (∃ x, e = .returned (.int .i64 x) ∧ -8192 ≤ x ∧ x ≤ 8192) ∧ w = w') {a : Act} {W : World} {Q : Exit → Act → World → Prop} (h : Now4 A1 n1 c1 B w 29 a W) : wpOp Tryz.prog P4.ops Q 29 (Now4 A1 n1 c1 B w (29 + 1)) a W :=
  c_at HAT h (by decide) 11 49 #[3] (by kernel_rfl) (by kernel_rfl) (show a.eval (.tmp 49) = at10 B from h.done 28 (by decide)) (by decide) (fun v hv => hv)
theorem a4_30 {a : Act} {W : World} {Q : Exit → Act → World → Prop} (h : Now4 A1 n1 c1 B w 30 a W) : wpOp Tryz.prog P4.ops Q 30 (Now4 A1 n1 c1 B w (30 + 1)) a W :=
  h.run hp4 (by decide) (want_none (by kernel_rfl)) (r_move a W _ (.tmp 13) _ (by kernel_rfl) (show a.eval (.tmp 13) = at10 B from h.pre 13 (by decide))) rfl
theorem a4_31 (HAT : ∀ (i : Int), 0 ≤ i → i < 100 → Calls Tryz.prog 10 #[.int .i64 i, .pointer (some ⟨B, 0, none⟩)] w fun e w' => (∃ x, e = .returned (.int .i64 x) ∧ -8192 ≤ x ∧ x ≤ 8192) ∧ w = w') {a : Act} {W : World} {Q : Exit → Act → World → Prop} (h : Now4 A1 n1 c1 B w 31 a W) : wpOp Tryz.prog P4.ops Q 31 (Now4 A1 n1 c1 B w (31 + 1)) a W :=
  c_at HAT h (by decide) 12 51 #[3] (by kernel_rfl) (by kernel_rfl) (show a.eval (.tmp 51) = at10 B from h.done 30 (by decide)) (by decide) (fun v hv => hv)
theorem a4_32 {a : Act} {W : World} {Q : Exit → Act → World → Prop} (h : Now4 A1 n1 c1 B w 32 a W) : wpOp Tryz.prog P4.ops Q 32 (Now4 A1 n1 c1 B w (32 + 1)) a W :=
  h.run hp4 (by decide) (want_none (by kernel_rfl)) (r_move a W _ (.tmp 13) _ (by kernel_rfl) (show a.eval (.tmp 13) = at10 B from h.pre 13 (by decide))) rfl
theorem a4_33 (HAT : ∀ (i : Int), 0 ≤ i → i < 100 → Calls Tryz.prog 10 #[.int .i64 i, .pointer (some ⟨B, 0, none⟩)] w fun e w' => (∃ x, e = .returned (.int .i64 x) ∧ -8192 ≤ x ∧ x ≤ 8192) ∧ w = w') {a : Act} {W : World} {Q : Exit → Act → World → Prop} (h : Now4 A1 n1 c1 B w 33 a W) : wpOp Tryz.prog P4.ops Q 33 (Now4 A1 n1 c1 B w (33 + 1)) a W :=
  c_at HAT h (by decide) 13 53 #[3] (by kernel_rfl) (by kernel_rfl) (show a.eval (.tmp 53) = at10 B from h.done 32 (by decide)) (by decide) (fun v hv => hv)
theorem a4_34 {a : Act} {W : World} {Q : Exit → Act → World → Prop} (h : Now4 A1 n1 c1 B w 34 a W) : wpOp Tryz.prog P4.ops Q 34 (Now4 A1 n1 c1 B w (34 + 1)) a W :=
  h.run hp4 (by decide) (want_none (by kernel_rfl)) (r_move a W _ (.tmp 14) _ (by kernel_rfl) (show a.eval (.tmp 14) = at11 from h.pre 14 (by decide))) rfl
theorem a4_35 {a : Act} {W : World} {Q : Exit → Act → World → Prop} (h : Now4 A1 n1 c1 B w 35 a W) : wpOp Tryz.prog P4.ops Q 35 (Now4 A1 n1 c1 B w (35 + 1)) a W :=
  h.run hp4 (by decide) (want_none (by kernel_rfl)) (r_move a W _ (.tmp 13) _ (by kernel_rfl) (show a.eval (.tmp 13) = at10 B from h.pre 13 (by decide))) rfl
theorem a4_36 (HAT : ∀ (i : Int), 0 ≤ i → i < 100 → Calls Tryz.prog 10 #[.int .i64 i, .pointer (some ⟨B, 0, none⟩)] w fun e w' => (∃ x, e = .returned (.int .i64 x) ∧ -8192 ≤ x ∧ x ≤ 8192) ∧ w = w') {a : Act} {W : World} {Q : Exit → Act → World → Prop} (h : Now4 A1 n1 c1 B w 36 a W) : wpOp Tryz.prog P4.ops Q 36 (Now4 A1 n1 c1 B w (36 + 1)) a W :=
  c_at HAT h (by decide) 14 56 #[3] (by kernel_rfl) (by kernel_rfl) (show a.eval (.tmp 56) = at10 B from h.done 35 (by decide)) (by decide) (fun v hv => hv)
theorem a4_37 {a : Act} {W : World} {Q : Exit → Act → World → Prop} (h : Now4 A1 n1 c1 B w 37 a W) : wpOp Tryz.prog P4.ops Q 37 (Now4 A1 n1 c1 B w (37 + 1)) a W :=
  c_abs h (by decide) 57 55 #[3] (by kernel_rfl) (by kernel_rfl) (show a.eval (.tmp 55) = at11 from h.done 34 (by decide)) (show Within (-8192) 8192 (a.eval (.tmp 57)) from h.done 36 (by decide)) (fun v hv => hv)
theorem a4_38 {a : Act} {W : World} {Q : Exit → Act → World → Prop} (h : Now4 A1 n1 c1 B w 38 a W) : wpOp Tryz.prog P4.ops Q 38 (Now4 A1 n1 c1 B w (38 + 1)) a W :=
  c_rem h (by decide) 58 1000 (by kernel_rfl) (by kernel_rfl) (by decide) (show Within 0 8192 (a.eval (.tmp 58)) from h.done 37 (by decide)) (fun v hv => hv)
theorem a4_39 {a : Act} {W : World} {Q : Exit → Act → World → Prop} (h : Now4 A1 n1 c1 B w 39 a W) : wpOp Tryz.prog P4.ops Q 39 (Now4 A1 n1 c1 B w (39 + 1)) a W :=
  c_add h (by decide) 59 1 999 (by kernel_rfl) (by kernel_rfl) (by decide) (by decide) (show Within 0 999 (a.eval (.tmp 59)) from h.done 38 (by decide)) (fun v hv => hv)
theorem a4_40 {a : Act} {W : World} {Q : Exit → Act → World → Prop} (h : Now4 A1 n1 c1 B w 40 a W) : wpOp Tryz.prog P4.ops Q 40 (Now4 A1 n1 c1 B w (40 + 1)) a W :=
  h.run hp4 (by decide) (want_none (by kernel_rfl)) (r_move a W _ (.tmp 14) _ (by kernel_rfl) (show a.eval (.tmp 14) = at11 from h.pre 14 (by decide))) rfl
theorem a4_41 {a : Act} {W : World} {Q : Exit → Act → World → Prop} (h : Now4 A1 n1 c1 B w 41 a W) : wpOp Tryz.prog P4.ops Q 41 (Now4 A1 n1 c1 B w (41 + 1)) a W :=
  h.run hp4 (by decide) (want_none (by kernel_rfl)) (r_move a W _ (.tmp 13) _ (by kernel_rfl) (show a.eval (.tmp 13) = at10 B from h.pre 13 (by decide))) rfl
theorem a4_42 (HAT : ∀ (i : Int), 0 ≤ i → i < 100 → Calls Tryz.prog 10 #[.int .i64 i, .pointer (some ⟨B, 0, none⟩)] w fun e w' => (∃ x, e = .returned (.int .i64 x) ∧ -8192 ≤ x ∧ x ≤ 8192) ∧ w = w') {a : Act} {W : World} {Q : Exit → Act → World → Prop} (h : Now4 A1 n1 c1 B w 42 a W) : wpOp Tryz.prog P4.ops Q 42 (Now4 A1 n1 c1 B w (42 + 1)) a W :=
  c_at HAT h (by decide) 15 62 #[3] (by kernel_rfl) (by kernel_rfl) (show a.eval (.tmp 62) = at10 B from h.done 41 (by decide)) (by decide) (fun v hv => hv)
theorem a4_43 {a : Act} {W : World} {Q : Exit → Act → World → Prop} (h : Now4 A1 n1 c1 B w 43 a W) : wpOp Tryz.prog P4.ops Q 43 (Now4 A1 n1 c1 B w (43 + 1)) a W :=
  c_abs h (by decide) 63 61 #[3] (by kernel_rfl) (by kernel_rfl) (show a.eval (.tmp 61) = at11 from h.done 40 (by decide)) (show Within (-8192) 8192 (a.eval (.tmp 63)) from h.done 42 (by decide)) (fun v hv => hv)
theorem a4_44 {a : Act} {W : World} {Q : Exit → Act → World → Prop} (h : Now4 A1 n1 c1 B w 44 a W) : wpOp Tryz.prog P4.ops Q 44 (Now4 A1 n1 c1 B w (44 + 1)) a W :=
  c_rem h (by decide) 64 9 (by kernel_rfl) (by kernel_rfl) (by decide) (show Within 0 8192 (a.eval (.tmp 64)) from h.done 43 (by decide)) (fun v hv => hv)
theorem a4_45 {a : Act} {W : World} {Q : Exit → Act → World → Prop} (h : Now4 A1 n1 c1 B w 45 a W) : wpOp Tryz.prog P4.ops Q 45 (Now4 A1 n1 c1 B w (45 + 1)) a W :=
  c_add h (by decide) 65 1 8 (by kernel_rfl) (by kernel_rfl) (by decide) (by decide) (show Within 0 8 (a.eval (.tmp 65)) from h.done 44 (by decide)) (fun v hv => hv)
theorem a4_46 {a : Act} {W : World} {Q : Exit → Act → World → Prop} (h : Now4 A1 n1 c1 B w 46 a W) : wpOp Tryz.prog P4.ops Q 46 (Now4 A1 n1 c1 B w (46 + 1)) a W :=
  h.run hp4 (by decide) (want_none (by kernel_rfl)) (r_move a W _ (.tmp 13) _ (by kernel_rfl) (show a.eval (.tmp 13) = at10 B from h.pre 13 (by decide))) rfl
theorem a4_47 (HAT : ∀ (i : Int), 0 ≤ i → i < 100 → Calls Tryz.prog 10 #[.int .i64 i, .pointer (some ⟨B, 0, none⟩)] w fun e w' => (∃ x, e = .returned (.int .i64 x) ∧ -8192 ≤ x ∧ x ≤ 8192) ∧ w = w') {a : Act} {W : World} {Q : Exit → Act → World → Prop} (h : Now4 A1 n1 c1 B w 47 a W) : wpOp Tryz.prog P4.ops Q 47 (Now4 A1 n1 c1 B w (47 + 1)) a W :=
  c_at HAT h (by decide) 16 67 #[3] (by kernel_rfl) (by kernel_rfl) (show a.eval (.tmp 67) = at10 B from h.done 46 (by decide)) (by decide) (fun v hv => hv)
theorem a4_48 {a : Act} {W : World} {Q : Exit → Act → World → Prop} (h : Now4 A1 n1 c1 B w 48 a W) : wpOp Tryz.prog P4.ops Q 48 (Now4 A1 n1 c1 B w (48 + 1)) a W :=
  c_rem2 h (by decide) 68 (by kernel_rfl) (by kernel_rfl) (show Within (-8192) 8192 (a.eval (.tmp 68)) from h.done 47 (by decide)) (fun v hv => hv)
theorem a4_49 {a : Act} {W : World} {Q : Exit → Act → World → Prop} (h : Now4 A1 n1 c1 B w 49 a W) : wpOp Tryz.prog P4.ops Q 49 (Now4 A1 n1 c1 B w (49 + 1)) a W :=
  c_neq h (by decide) 69 (by kernel_rfl) (by kernel_rfl) (show IsInt (a.eval (.tmp 69)) from h.done 48 (by decide)) (fun v hv => hv)
theorem a4_50 {a : Act} {W : World} {Q : Exit → Act → World → Prop} (h : Now4 A1 n1 c1 B w 50 a W) : wpOp Tryz.prog P4.ops Q 50 (Now4 A1 n1 c1 B w (50 + 1)) a W :=
  h.run hp4 (by decide) (want_none (by kernel_rfl)) (r_move a W _ (.tmp 13) _ (by kernel_rfl) (show a.eval (.tmp 13) = at10 B from h.pre 13 (by decide))) rfl
theorem a4_51 (HAT : ∀ (i : Int), 0 ≤ i → i < 100 → Calls Tryz.prog 10 #[.int .i64 i, .pointer (some ⟨B, 0, none⟩)] w fun e w' => (∃ x, e = .returned (.int .i64 x) ∧ -8192 ≤ x ∧ x ≤ 8192) ∧ w = w') {a : Act} {W : World} {Q : Exit → Act → World → Prop} (h : Now4 A1 n1 c1 B w 51 a W) : wpOp Tryz.prog P4.ops Q 51 (Now4 A1 n1 c1 B w (51 + 1)) a W :=
  c_at HAT h (by decide) 17 71 #[3] (by kernel_rfl) (by kernel_rfl) (show a.eval (.tmp 71) = at10 B from h.done 50 (by decide)) (by decide) (fun v hv => hv)
theorem a4_52 {a : Act} {W : World} {Q : Exit → Act → World → Prop} (h : Now4 A1 n1 c1 B w 52 a W) : wpOp Tryz.prog P4.ops Q 52 (Now4 A1 n1 c1 B w (52 + 1)) a W :=
  c_rem2 h (by decide) 72 (by kernel_rfl) (by kernel_rfl) (show Within (-8192) 8192 (a.eval (.tmp 72)) from h.done 51 (by decide)) (fun v hv => hv)
theorem a4_53 {a : Act} {W : World} {Q : Exit → Act → World → Prop} (h : Now4 A1 n1 c1 B w 53 a W) : wpOp Tryz.prog P4.ops Q 53 (Now4 A1 n1 c1 B w (53 + 1)) a W :=
  c_neq h (by decide) 73 (by kernel_rfl) (by kernel_rfl) (show IsInt (a.eval (.tmp 73)) from h.done 52 (by decide)) (fun v hv => hv)
theorem a4_54 {a : Act} {W : World} {Q : Exit → Act → World → Prop} (h : Now4 A1 n1 c1 B w 54 a W) : wpOp Tryz.prog P4.ops Q 54 (Now4 A1 n1 c1 B w (54 + 1)) a W :=
  h.run hp4 (by decide) (want_none (by kernel_rfl)) (r_move a W _ (.tmp 13) _ (by kernel_rfl) (show a.eval (.tmp 13) = at10 B from h.pre 13 (by decide))) rfl
theorem a4_55 (HAT : ∀ (i : Int), 0 ≤ i → i < 100 → Calls Tryz.prog 10 #[.int .i64 i, .pointer (some ⟨B, 0, none⟩)] w fun e w' => (∃ x, e = .returned (.int .i64 x) ∧ -8192 ≤ x ∧ x ≤ 8192) ∧ w = w') {a : Act} {W : World} {Q : Exit → Act → World → Prop} (h : Now4 A1 n1 c1 B w 55 a W) : wpOp Tryz.prog P4.ops Q 55 (Now4 A1 n1 c1 B w (55 + 1)) a W :=
  c_at HAT h (by decide) 18 75 #[3] (by kernel_rfl) (by kernel_rfl) (show a.eval (.tmp 75) = at10 B from h.done 54 (by decide)) (by decide) (fun v hv => hv)
theorem a4_56 {a : Act} {W : World} {Q : Exit → Act → World → Prop} (h : Now4 A1 n1 c1 B w 56 a W) : wpOp Tryz.prog P4.ops Q 56 (Now4 A1 n1 c1 B w (56 + 1)) a W :=
  h.run hp4 (by decide) (want_none (by kernel_rfl)) (r_move a W _ (.tmp 13) _ (by kernel_rfl) (show a.eval (.tmp 13) = at10 B from h.pre 13 (by decide))) rfl
theorem a4_57 (HAT : ∀ (i : Int), 0 ≤ i → i < 100 → Calls Tryz.prog 10 #[.int .i64 i, .pointer (some ⟨B, 0, none⟩)] w fun e w' => (∃ x, e = .returned (.int .i64 x) ∧ -8192 ≤ x ∧ x ≤ 8192) ∧ w = w') {a : Act} {W : World} {Q : Exit → Act → World → Prop} (h : Now4 A1 n1 c1 B w 57 a W) : wpOp Tryz.prog P4.ops Q 57 (Now4 A1 n1 c1 B w (57 + 1)) a W :=
  c_at HAT h (by decide) 19 77 #[3] (by kernel_rfl) (by kernel_rfl) (show a.eval (.tmp 77) = at10 B from h.done 56 (by decide)) (by decide) (fun v hv => hv)
theorem a4_58 {a : Act} {W : World} {Q : Exit → Act → World → Prop} (h : Now4 A1 n1 c1 B w 58 a W) : wpOp Tryz.prog P4.ops Q 58 (Now4 A1 n1 c1 B w (58 + 1)) a W :=
  h.run hp4 (by decide) (want_none (by kernel_rfl)) (r_move a W _ (.tmp 13) _ (by kernel_rfl) (show a.eval (.tmp 13) = at10 B from h.pre 13 (by decide))) rfl
theorem a4_59 (HAT : ∀ (i : Int), 0 ≤ i → i < 100 → Calls Tryz.prog 10 #[.int .i64 i, .pointer (some ⟨B, 0, none⟩)] w fun e w' => (∃ x, e = .returned (.int .i64 x) ∧ -8192 ≤ x ∧ x ≤ 8192) ∧ w = w') {a : Act} {W : World} {Q : Exit → Act → World → Prop} (h : Now4 A1 n1 c1 B w 59 a W) : wpOp Tryz.prog P4.ops Q 59 (Now4 A1 n1 c1 B w (59 + 1)) a W :=
  c_at HAT h (by decide) 20 79 #[3] (by kernel_rfl) (by kernel_rfl) (show a.eval (.tmp 79) = at10 B from h.done 58 (by decide)) (by decide) (fun v hv => hv)
theorem a4_60 {a : Act} {W : World} {Q : Exit → Act → World → Prop} (h : Now4 A1 n1 c1 B w 60 a W) : wpOp Tryz.prog P4.ops Q 60 (Now4 A1 n1 c1 B w (60 + 1)) a W :=
  h.run hp4 (by decide) (want_none (by kernel_rfl)) (r_move a W _ (.tmp 13) _ (by kernel_rfl) (show a.eval (.tmp 13) = at10 B from h.pre 13 (by decide))) rfl
theorem a4_61 (HAT : ∀ (i : Int), 0 ≤ i → i < 100 → Calls Tryz.prog 10 #[.int .i64 i, .pointer (some ⟨B, 0, none⟩)] w fun e w' => (∃ x, e = .returned (.int .i64 x) ∧ -8192 ≤ x ∧ x ≤ 8192) ∧ w = w') {a : Act} {W : World} {Q : Exit → Act → World → Prop} (h : Now4 A1 n1 c1 B w 61 a W) : wpOp Tryz.prog P4.ops Q 61 (Now4 A1 n1 c1 B w (61 + 1)) a W :=
  c_at HAT h (by decide) 21 81 #[3] (by kernel_rfl) (by kernel_rfl) (show a.eval (.tmp 81) = at10 B from h.done 60 (by decide)) (by decide) (fun v hv => hv)
theorem a4_62 {a : Act} {W : World} {Q : Exit → Act → World → Prop} (h : Now4 A1 n1 c1 B w 62 a W) : wpOp Tryz.prog P4.ops Q 62 (Now4 A1 n1 c1 B w (62 + 1)) a W :=
  h.run hp4 (by decide) (want_none (by kernel_rfl)) (r_move a W _ (.tmp 13) _ (by kernel_rfl) (show a.eval (.tmp 13) = at10 B from h.pre 13 (by decide))) rfl
theorem a4_63 (HAT : ∀ (i : Int), 0 ≤ i → i < 100 → Calls Tryz.prog 10 #[.int .i64 i, .pointer (some ⟨B, 0, none⟩)] w fun e w' => (∃ x, e = .returned (.int .i64 x) ∧ -8192 ≤ x ∧ x ≤ 8192) ∧ w = w') {a : Act} {W : World} {Q : Exit → Act → World → Prop} (h : Now4 A1 n1 c1 B w 63 a W) : wpOp Tryz.prog P4.ops Q 63 (Now4 A1 n1 c1 B w (63 + 1)) a W :=
  c_at HAT h (by decide) 22 83 #[3] (by kernel_rfl) (by kernel_rfl) (show a.eval (.tmp 83) = at10 B from h.done 62 (by decide)) (by decide) (fun v hv => hv)
theorem a4_64 {a : Act} {W : World} {Q : Exit → Act → World → Prop} (h : Now4 A1 n1 c1 B w 64 a W) : wpOp Tryz.prog P4.ops Q 64 (Now4 A1 n1 c1 B w (64 + 1)) a W :=
  h.run hp4 (by decide) (want_none (by kernel_rfl)) (r_move a W _ (.tmp 13) _ (by kernel_rfl) (show a.eval (.tmp 13) = at10 B from h.pre 13 (by decide))) rfl
theorem a4_65 (HAT : ∀ (i : Int), 0 ≤ i → i < 100 → Calls Tryz.prog 10 #[.int .i64 i, .pointer (some ⟨B, 0, none⟩)] w fun e w' => (∃ x, e = .returned (.int .i64 x) ∧ -8192 ≤ x ∧ x ≤ 8192) ∧ w = w') {a : Act} {W : World} {Q : Exit → Act → World → Prop} (h : Now4 A1 n1 c1 B w 65 a W) : wpOp Tryz.prog P4.ops Q 65 (Now4 A1 n1 c1 B w (65 + 1)) a W :=
  c_at HAT h (by decide) 23 85 #[3] (by kernel_rfl) (by kernel_rfl) (show a.eval (.tmp 85) = at10 B from h.done 64 (by decide)) (by decide) (fun v hv => hv)
theorem a4_66 {a : Act} {W : World} {Q : Exit → Act → World → Prop} (h : Now4 A1 n1 c1 B w 66 a W) : wpOp Tryz.prog P4.ops Q 66 (Now4 A1 n1 c1 B w (66 + 1)) a W :=
  h.run hp4 (by decide) (want_none (by kernel_rfl)) (r_move a W _ (.tmp 13) _ (by kernel_rfl) (show a.eval (.tmp 13) = at10 B from h.pre 13 (by decide))) rfl
theorem a4_67 (HAT : ∀ (i : Int), 0 ≤ i → i < 100 → Calls Tryz.prog 10 #[.int .i64 i, .pointer (some ⟨B, 0, none⟩)] w fun e w' => (∃ x, e = .returned (.int .i64 x) ∧ -8192 ≤ x ∧ x ≤ 8192) ∧ w = w') {a : Act} {W : World} {Q : Exit → Act → World → Prop} (h : Now4 A1 n1 c1 B w 67 a W) : wpOp Tryz.prog P4.ops Q 67 (Now4 A1 n1 c1 B w (67 + 1)) a W :=
  c_at HAT h (by decide) 24 87 #[3] (by kernel_rfl) (by kernel_rfl) (show a.eval (.tmp 87) = at10 B from h.done 66 (by decide)) (by decide) (fun v hv => hv)
theorem a4_68 {a : Act} {W : World} {Q : Exit → Act → World → Prop} (h : Now4 A1 n1 c1 B w 68 a W) : wpOp Tryz.prog P4.ops Q 68 (Now4 A1 n1 c1 B w (68 + 1)) a W :=
  h.run hp4 (by decide) (want_none (by kernel_rfl)) (r_move a W _ (.tmp 13) _ (by kernel_rfl) (show a.eval (.tmp 13) = at10 B from h.pre 13 (by decide))) rfl
theorem a4_69 (HAT : ∀ (i : Int), 0 ≤ i → i < 100 → Calls Tryz.prog 10 #[.int .i64 i, .pointer (some ⟨B, 0, none⟩)] w fun e w' => (∃ x, e = .returned (.int .i64 x) ∧ -8192 ≤ x ∧ x ≤ 8192) ∧ w = w') {a : Act} {W : World} {Q : Exit → Act → World → Prop} (h : Now4 A1 n1 c1 B w 69 a W) : wpOp Tryz.prog P4.ops Q 69 (Now4 A1 n1 c1 B w (69 + 1)) a W :=
  c_at HAT h (by decide) 25 89 #[3] (by kernel_rfl) (by kernel_rfl) (show a.eval (.tmp 89) = at10 B from h.done 68 (by decide)) (by decide) (fun v hv => hv)
theorem a4_70 {a : Act} {W : World} {Q : Exit → Act → World → Prop} (h : Now4 A1 n1 c1 B w 70 a W) : wpOp Tryz.prog P4.ops Q 70 (Now4 A1 n1 c1 B w (70 + 1)) a W := by
  obtain ⟨x0, e0, l0, u0⟩ : Within 16 (16 + 3999) (a.eval (.tmp 26)) := h.done 5 (by decide)
  obtain ⟨x1, e1, l1, u1⟩ : Within (-8192) 8192 (a.eval (.tmp 28)) := h.done 7 (by decide)
  obtain ⟨x2, e2, l2, u2⟩ : Within (-8192) 8192 (a.eval (.tmp 30)) := h.done 9 (by decide)
  obtain ⟨x3, e3, l3, u3⟩ : Within (-8192) 8192 (a.eval (.tmp 32)) := h.done 11 (by decide)
  obtain ⟨x4, e4, l4, u4⟩ : Within (-8192) 8192 (a.eval (.tmp 34)) := h.done 13 (by decide)
  obtain ⟨x5, e5, l5, u5⟩ : Within (-8192) 8192 (a.eval (.tmp 36)) := h.done 15 (by decide)
  obtain ⟨x6, e6, l6, u6⟩ : Within (-8192) 8192 (a.eval (.tmp 38)) := h.done 17 (by decide)
  obtain ⟨b7, e7⟩ : IsBool (a.eval (.tmp 42)) := h.done 21 (by decide)
  obtain ⟨x8, e8, l8, u8⟩ : Within (-8192) 8192 (a.eval (.tmp 44)) := h.done 23 (by decide)
  obtain ⟨x9, e9, l9, u9⟩ : Within (-8192) 8192 (a.eval (.tmp 46)) := h.done 25 (by decide)
  obtain ⟨x10, e10, l10, u10⟩ : Within (-8192) 8192 (a.eval (.tmp 48)) := h.done 27 (by decide)
  obtain ⟨x11, e11, l11, u11⟩ : Within (-8192) 8192 (a.eval (.tmp 50)) := h.done 29 (by decide)
  obtain ⟨x12, e12, l12, u12⟩ : Within (-8192) 8192 (a.eval (.tmp 52)) := h.done 31 (by decide)
  obtain ⟨x13, e13, l13, u13⟩ : Within (-8192) 8192 (a.eval (.tmp 54)) := h.done 33 (by decide)
  obtain ⟨x14, e14, l14, u14⟩ : Within 1 (1 + 999) (a.eval (.tmp 60)) := h.done 39 (by decide)
  obtain ⟨x15, e15, l15, u15⟩ : Within 1 (1 + 8) (a.eval (.tmp 66)) := h.done 45 (by decide)
  obtain ⟨b16, e16⟩ : IsBool (a.eval (.tmp 70)) := h.done 49 (by decide)
  obtain ⟨b17, e17⟩ : IsBool (a.eval (.tmp 74)) := h.done 53 (by decide)
  obtain ⟨x18, e18, l18, u18⟩ : Within (-8192) 8192 (a.eval (.tmp 76)) := h.done 55 (by decide)
  obtain ⟨x19, e19, l19, u19⟩ : Within (-8192) 8192 (a.eval (.tmp 78)) := h.done 57 (by decide)
  obtain ⟨x20, e20, l20, u20⟩ : Within (-8192) 8192 (a.eval (.tmp 80)) := h.done 59 (by decide)
  obtain ⟨x21, e21, l21, u21⟩ : Within (-8192) 8192 (a.eval (.tmp 82)) := h.done 61 (by decide)
  obtain ⟨x22, e22, l22, u22⟩ : Within (-8192) 8192 (a.eval (.tmp 84)) := h.done 63 (by decide)
  obtain ⟨x23, e23, l23, u23⟩ : Within (-8192) 8192 (a.eval (.tmp 86)) := h.done 65 (by decide)
  obtain ⟨x24, e24, l24, u24⟩ : Within (-8192) 8192 (a.eval (.tmp 88)) := h.done 67 (by decide)
  obtain ⟨x25, e25, l25, u25⟩ : Within (-8192) 8192 (a.eval (.tmp 90)) := h.done 69 (by decide)
  have hop : (P4.at 70).op = .build 26 #[(0, .tmp 26), (1, .tmp 28), (2, .tmp 30), (3, .tmp 32), (4, .tmp 34), (5, .tmp 36), (6, .tmp 38), (7, .tmp 42), (8, .tmp 44), (9, .tmp 46), (10, .tmp 48), (11, .tmp 50), (12, .tmp 52), (13, .tmp 54), (14, .tmp 60), (15, .tmp 66), (16, .tmp 70), (17, .tmp 74), (18, .tmp 76), (19, .tmp 78), (20, .tmp 80), (21, .tmp 82), (22, .tmp 84), (23, .tmp 86), (24, .tmp 88), (25, .tmp 90)] := by kernel_rfl
  have e : (#[(0, .tmp 26), (1, .tmp 28), (2, .tmp 30), (3, .tmp 32), (4, .tmp 34), (5, .tmp 36), (6, .tmp 38), (7, .tmp 42), (8, .tmp 44), (9, .tmp 46), (10, .tmp 48), (11, .tmp 50), (12, .tmp 52), (13, .tmp 54), (14, .tmp 60), (15, .tmp 66), (16, .tmp 70), (17, .tmp 74), (18, .tmp 76), (19, .tmp 78), (20, .tmp 80), (21, .tmp 82), (22, .tmp 84), (23, .tmp 86), (24, .tmp 88), (25, .tmp 90)] : Array (Nat × Operand)).map (fun (i, x) => (i, a.eval x)) = (#[(0, vi x0), (1, vi x1), (2, vi x2), (3, vi x3), (4, vi x4), (5, vi x5), (6, vi x6), (7, .bool b7), (8, vi x8), (9, vi x9), (10, vi x10), (11, vi x11), (12, vi x12), (13, vi x13), (14, vi x14), (15, vi x15), (16, .bool b16), (17, .bool b17), (18, vi x18), (19, vi x19), (20, vi x20), (21, vi x21), (22, vi x22), (23, vi x23), (24, vi x24), (25, vi x25)] : Array (Nat × Value)) := by
    simp only [List.map_toArray, List.map_cons, List.map_nil, e0, e1, e2, e3, e4, e5, e6, e7, e8, e9, e10, e11, e12, e13, e14, e15, e16, e17, e18, e19, e20, e21, e22, e23, e24, e25]
  have hr : (execOp a.eval (P4.at 70)).run Tryz.prog W = .ok (.value (.agg #[vi x0, vi x1, vi x2, vi x3, vi x4, vi x5, vi x6, .bool b7, vi x8, vi x9, vi x10, vi x11, vi x12, vi x13, vi x14, vi x15, .bool b16, .bool b17, vi x18, vi x19, vi x20, vi x21, vi x22, vi x23, vi x24, vi x25])) W := by
    unfold execOp; rw [hop]; dsimp only
    rw [Sem.run_bind, bd_eq e (show _ = .ok (.agg #[vi x0, vi x1, vi x2, vi x3, vi x4, vi x5, vi x6, .bool b7, vi x8, vi x9, vi x10, vi x11, vi x12, vi x13, vi x14, vi x15, .bool b16, .bool b17, vi x18, vi x19, vi x20, vi x21, vi x22, vi x23, vi x24, vi x25]) W from by kernel_rfl)]; rfl
  refine h.run hp4 (by decide) (want_none (by kernel_rfl)) hr ?_
  refine ⟨fun j => ([x0, x1, x2, x3, x4, x5, x6, 0, x8, x9, x10, x11, x12, x13, x14, x15, 0, 0, x18, x19, x20, x21, x22, x23, x24, x25] : List Int).getD j 0, b7, b16, b17, ⟨list_lim _ (by intro y hy; simp only [List.mem_cons, List.not_mem_nil, or_false] at hy; omega), (by show (16 : Int) ≤ x0; omega), ⟨(by show (1 : Int) ≤ x14; omega), (by show x14 ≤ (1000 : Int); omega)⟩, ⟨(by show (1 : Int) ≤ x15; omega), (by show x15 ≤ (9 : Int); omega)⟩⟩, rfl⟩
theorem a4_71 {a : Act} {W : World} {Q : Exit → Act → World → Prop} (h : Now4 A1 n1 c1 B w 71 a W) : wpOp Tryz.prog P4.ops Q 71 (Now4 A1 n1 c1 B w (71 + 1)) a W := by
  obtain ⟨M, b7, b16, b17, hl, e⟩ : IsMet (a.eval (.tmp 91)) := h.done 70 (by decide)
  have hop : (P4.at 71).op = .build 35 #[(0, .tmp 91)] := by kernel_rfl
  have e2 : (#[(0, .tmp 91)] : Array (Nat × Operand)).map (fun (i, x) => (i, a.eval x)) = (#[(0, .agg (metCells M b7 b16 b17).toArray)] : Array (Nat × Value)) := by
    simp only [List.map_toArray, List.map_cons, List.map_nil, e]
  have hr : (execOp a.eval (P4.at 71)).run Tryz.prog W = .ok (.value (.agg (fileCells M b7 b16 b17 vnil (vi 0)))) W := by
    unfold execOp; rw [hop]; dsimp only
    rw [Sem.run_bind, bd_eq e2 (show _ = .ok (.agg (fileCells M b7 b16 b17 vnil (vi 0))) W from by kernel_rfl)]; rfl
  exact h.run hp4 (by decide) (want_none (by kernel_rfl)) hr ⟨M, b7, b16, b17, hl, rfl⟩
theorem steps4 (HAT : ∀ (i : Int), 0 ≤ i → i < 100 → Calls Tryz.prog 10 #[.int .i64 i, .pointer (some ⟨B, 0, none⟩)] w fun e w' => (∃ x, e = .returned (.int .i64 x) ∧ -8192 ≤ x ∧ x ≤ 8192) ∧ w = w') {Q : Exit → Act → World → Prop} (i : Nat) (hi : i < 72) (a : Act) (W : World) (h : Now4 A1 n1 c1 B w i a W) : wpOp Tryz.prog P4.ops Q i (Now4 A1 n1 c1 B w (i + 1)) a W := by
  match i, hi, h with
  | 0, _, h => exact a4_0 h
  | 1, _, h => exact a4_1 h
  | 2, _, h => exact a4_2 HAT h
  | 3, _, h => exact a4_3 h
  | 4, _, h => exact a4_4 h
  | 5, _, h => exact a4_5 h
  | 6, _, h => exact a4_6 h
  | 7, _, h => exact a4_7 HAT h
  | 8, _, h => exact a4_8 h
  | 9, _, h => exact a4_9 HAT h
  | 10, _, h => exact a4_10 h
  | 11, _, h => exact a4_11 HAT h
  | 12, _, h => exact a4_12 h
  | 13, _, h => exact a4_13 HAT h
  | 14, _, h => exact a4_14 h
  | 15, _, h => exact a4_15 HAT h
  | 16, _, h => exact a4_16 h
  | 17, _, h => exact a4_17 HAT h
  | 18, _, h => exact a4_18 h
  | 19, _, h => exact a4_19 HAT h
  | 20, _, h => exact a4_20 h
  | 21, _, h => exact a4_21 h
  | 22, _, h => exact a4_22 h
  | 23, _, h => exact a4_23 HAT h
  | 24, _, h => exact a4_24 h
  | 25, _, h => exact a4_25 HAT h
  | 26, _, h => exact a4_26 h
  | 27, _, h => exact a4_27 HAT h
  | 28, _, h => exact a4_28 h
  | 29, _, h => exact a4_29 HAT h
  | 30, _, h => exact a4_30 h
  | 31, _, h => exact a4_31 HAT h
  | 32, _, h => exact a4_32 h
  | 33, _, h => exact a4_33 HAT h
  | 34, _, h => exact a4_34 h
  | 35, _, h => exact a4_35 h
  | 36, _, h => exact a4_36 HAT h
  | 37, _, h => exact a4_37 h
  | 38, _, h => exact a4_38 h
  | 39, _, h => exact a4_39 h
  | 40, _, h => exact a4_40 h
  | 41, _, h => exact a4_41 h
  | 42, _, h => exact a4_42 HAT h
  | 43, _, h => exact a4_43 h
  | 44, _, h => exact a4_44 h
  | 45, _, h => exact a4_45 h
  | 46, _, h => exact a4_46 h
  | 47, _, h => exact a4_47 HAT h
  | 48, _, h => exact a4_48 h
  | 49, _, h => exact a4_49 h
  | 50, _, h => exact a4_50 h
  | 51, _, h => exact a4_51 HAT h
  | 52, _, h => exact a4_52 h
  | 53, _, h => exact a4_53 h
  | 54, _, h => exact a4_54 h
  | 55, _, h => exact a4_55 HAT h
  | 56, _, h => exact a4_56 h
  | 57, _, h => exact a4_57 HAT h
  | 58, _, h => exact a4_58 h
  | 59, _, h => exact a4_59 HAT h
  | 60, _, h => exact a4_60 h
  | 61, _, h => exact a4_61 HAT h
  | 62, _, h => exact a4_62 h
  | 63, _, h => exact a4_63 HAT h
  | 64, _, h => exact a4_64 h
  | 65, _, h => exact a4_65 HAT h
  | 66, _, h => exact a4_66 h
  | 67, _, h => exact a4_67 HAT h
  | 68, _, h => exact a4_68 h
  | 69, _, h => exact a4_69 HAT h
  | 70, _, h => exact a4_70 h
  | 71, _, h => exact a4_71 h
  | i + 72, h, _ => exact absurd h (by omega)
end
end Go.Proofs.YtgggpllmgnpngaaGreatDoor.Tb
