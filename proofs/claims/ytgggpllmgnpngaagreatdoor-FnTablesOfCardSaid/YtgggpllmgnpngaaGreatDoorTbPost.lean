/- The table post without names, walked. -/
import Derived.Test.YtgggpllmgnpngaaGreatDoorTbLong
import Derived.WalkSpells
namespace Go.Proofs.YtgggpllmgnpngaaGreatDoor.Tb
open Go Go.RowKit

/-- A font's numbers. -/
structure MetR (F : Nat) (w : World) : Prop where
  low : F < w.heap.size
  num : ∀ j, j < 26 → j ≠ 7 → j ≠ 16 → j ≠ 17 → ∃ x : Int, (-1000000 < x ∧ x < 1000000) ∧ w.cell? ⟨F, j, none⟩ = some (.int .i64 x)
  flag : ∀ j, j = 7 ∨ j = 16 ∨ j = 17 → ∃ b : Bool, w.cell? ⟨F, j, none⟩ = some (.bool b)
theorem MetR.later {F : Nat} {w w' : World} (h : MetR F w) (k : Below w.heap.size w w') : MetR F w' :=
  ⟨Nat.lt_of_lt_of_le h.low k.size, fun j a b c d => by obtain ⟨x, h1, h2⟩ := h.num j a b c d; exact ⟨x, h1, below_cell k h2⟩, fun j a => by obtain ⟨x, h2⟩ := h.flag j a; exact ⟨x, below_cell k h2⟩⟩

/-- A table's step in a region: what it gives, and what is held. -/
def StepN (P : World → Prop) (T n : Nat) (w : World) (e : Ending) (w' : World) : Prop := e = .returned (.pointer (some ⟨T, 0, none⟩)) ∧ TabN T n w w' ∧ P w'
def StepX (P : World → Prop) (T n X m : Nat) (cs : List Value) (w : World) (e : Ending) (w' : World) : Prop := e = .returned (.pointer (some ⟨T, 0, none⟩)) ∧ TabX T n X m cs w w' ∧ P w'

section
variable {P : World → Prop} {w : World} (hP : ∀ W, Below w.heap.size w W → P W)
include hP
theorem long_sn (T n : Nat) (W : World) (x : Int) (h : TabN T n w W) (hn : n ≤ 9000) (hx0 : 0 ≤ x) (hx1 : x < 1000000000000) : Calls Tryz.prog 17 #[.pointer (some ⟨T, 0, none⟩), .int .i64 x] W (StepN P T (n + 4) w) :=
  (long_n T n w W x hx0 hx1 (by omega) h).mono fun _ _ ⟨h1, h2⟩ => ⟨h1, h2, hP _ h2.below⟩
theorem long_sx (T n X m : Nat) (cs : List Value) (W : World) (x : Int) (h : TabX T n X m cs w W) (hn : n ≤ 9000) (hx0 : 0 ≤ x) (hx1 : x < 1000000000000) : Calls Tryz.prog 17 #[.pointer (some ⟨T, 0, none⟩), .int .i64 x] W (StepX P T (n + 4) X m cs w) :=
  (long_x T n X m cs w W x hx0 hx1 (by omega) h).mono fun _ _ ⟨h1, h2⟩ => ⟨h1, h2, hP _ h2.plain.below⟩
theorem to4_sn (T n : Nat) (W : World) (s : ByteArray) (h : TabN T n w W) (hs : s.size = 4) (hn : n ≤ 9000) : Calls Tryz.prog 42 #[.pointer (some ⟨T, 0, none⟩), .string s] W (StepN P T (n + 4) w) :=
  (to4_n T n w W s hs (by omega) h).mono fun _ _ ⟨h1, h2⟩ => ⟨h1, h2, hP _ h2.below⟩
theorem to4_sx (T n X m : Nat) (cs : List Value) (W : World) (s : ByteArray) (h : TabX T n X m cs w W) (hs : s.size = 4) (hn : n ≤ 9000) : Calls Tryz.prog 42 #[.pointer (some ⟨T, 0, none⟩), .string s] W (StepX P T (n + 4) X m cs w) :=
  (to4_x T n X m cs w W s hs (by omega) h).mono fun _ _ ⟨h1, h2⟩ => ⟨h1, h2, hP _ h2.plain.below⟩
theorem short_sx (T n X m : Nat) (cs : List Value) (vals : List Int) (hcs : cs = vals.map fun x => .int .i64 x) (hm : vals.length = m) (hm3 : m ≤ 20) (hvals : ∀ x ∈ vals, -1000000000000 < x ∧ x < 1000000000000) (W : World) (h : TabX T n X m cs w W) (hn : n ≤ 9000) : Calls Tryz.prog 16 #[.pointer (some ⟨T, 0, none⟩), .slice (some ⟨X, 0, none⟩) m m] W (StepN P T (n + 2 * m) w) :=
  (short_x T n X m w W cs vals hcs hm hm3 hvals (by omega) h).mono fun _ _ ⟨h1, h2⟩ => ⟨h1, h2, hP _ h2.below⟩
end

set_option maxRecDepth 1000000 in
set_option maxHeartbeats 4000000 in
theorem post_any (R F : Nat) (w : World) (hm : MetR F w) : Calls Tryz.prog 20 #[.pointer (some ⟨R, 0, none⟩), .pointer (some ⟨F, 0, none⟩), .slice none 0 0] w (NewBytes 32 w) := by
  obtain ⟨x8, y8, c8⟩ := hm.num 8 (by omega) (by omega) (by omega) (by omega)
  obtain ⟨x9, y9, c9⟩ := hm.num 9 (by omega) (by omega) (by omega) (by omega)
  have hFl := hm.low
  have hP : ∀ W, Below w.heap.size w W → W.cell? ⟨F, 8, none⟩ = some (.int .i64 x8) ∧ W.cell? ⟨F, 9, none⟩ = some (.int .i64 x9) := fun W h => ⟨below_cell h c8, below_cell h c9⟩
  have HLN := Lib.hid (fun T n W x => long_sn (T := T) (n := n) (W := W) (x := x) hP)
  have HLX := Lib.hid (fun T n X W x => long_sx (T := T) (n := n) (X := X) (m := 2) (cs := [.int .i64 x8, .int .i64 x9]) (W := W) (x := x) hP)
  have HSX := Lib.hid (fun T n X W => short_sx (T := T) (n := n) (X := X) (m := 2) (cs := [.int .i64 x8, .int .i64 x9]) (vals := [x8, x9]) (W := W) hP rfl rfl (by omega) (by intro y hy; simp at hy; omega))
  have hA := (tabn_start w (Below.refl w.heap.size w)).drew
  have hA2 := ((tabn_start w (Below.refl w.heap.size w)).row (cs := [.int .i64 x8, .int .i64 x9]) (m := 2) (t := 3) rfl (by omega)).drew
  have hB := (tabx_start (w0 := w) (w.alloc (.cells #[.int .i64 x8, .int .i64 x9] 3)) ((Below.refl _ _).alloc (Nat.le_refl _) _) (row_low w [.int .i64 x8, .int .i64 x9] 3 2 rfl (by omega))).drew
  rw [World.size_alloc] at hA2 hB
  have HA := Lib.hid (And.intro hA (And.intro hA2 hB))
  have hnil : ∀ W : World, (binOp .neq 28 (.slice none 0 0) (.slice none 0 0)).run Tryz.prog W = .ok (.bool false) W := fun W => by
    have h := run_neq_slice_nil_any (P := Tryz.prog) W 28 9 none 0 0 0 0 Tryz.underlying28
    simpa using h
  have hnil2 : ∀ W : World, (binOp .eql 28 (.slice none 0 0) (.slice none 0 0)).run Tryz.prog W = .ok (.bool true) W := fun W => by
    have h := Lib.run_eql_slice_nil (P := Tryz.prog) W 28 9 none 0 0 0 0 Tryz.underlying28
    simpa using h
  clear hm hP hA hA2 hB
  go_enter Tryz.func20, Tryz.ntmps20
  go_upto_region 4 with fail
  go_cut [8] (fun tv W => ∃ T, tv = .pointer (some ⟨T, 0, none⟩) ∧ TabN T 32 w W)
  case first =>
    go_region_held3 (fun W => W.cell? ⟨F, 8, none⟩ = some (.int .i64 x8) ∧ W.cell? ⟨F, 9, none⟩ = some (.int .i64 x9))
      (first | go_keep | assumption)
      (first
        | (go_at_call 17; (with_reducible refine (HLX.out _ _ _ _ _ HA.out.2.1 (by omega) (by omega) (by omega)).mono ?_); rintro e w3 ⟨rfl, ht3, hc3⟩)
        | (go_at_call 17; (with_reducible refine (HLX.out _ _ _ _ _ HA.out.2.2 (by omega) (by omega) (by omega)).mono ?_); rintro e w3 ⟨rfl, ht3, hc3⟩)
        | (go_at_call 17; (with_reducible refine (HLN.out _ _ _ _ HA.out.1 (by omega) (by omega) (by omega)).mono ?_); rintro e w3 ⟨rfl, ht3, hc3⟩)
        | (go_at_call 17; (with_reducible refine (HLX.out _ _ _ _ _ (by assumption) (by omega) (by omega) (by omega)).mono ?_); rintro e w3 ⟨rfl, ht3, hc3⟩)
        | (go_at_call 17; (with_reducible refine (HLN.out _ _ _ _ (by assumption) (by omega) (by omega) (by omega)).mono ?_); rintro e w3 ⟨rfl, ht3, hc3⟩)
        | (go_at_call 17; (with_reducible refine (HLX.out _ _ _ _ _ (TabN.row (by assumption) rfl (by omega)) (by omega) (by omega) (by omega)).mono ?_); rintro e w3 ⟨rfl, ht3, hc3⟩)
        | (go_at_call 16; (with_reducible refine (HSX.out _ _ _ _ (by assumption) (by omega)).mono ?_); rintro e w3 ⟨rfl, ht3, hc3⟩)
        | (go_at_call 16; (with_reducible refine (HSX.out _ _ _ _ (TabN.row (by assumption) rfl (by omega)) (by omega)).mono ?_); rintro e w3 ⟨rfl, ht3, hc3⟩))
    all_goals
      go_wp2_with fail
      go_meet
      case rel => exact ⟨_, rfl, by assumption⟩
  case rest =>
    obtain ⟨T, rfl, h0, v, bs, h1, h2, h3, h4⟩ := hcut
    obtain ⟨w1, rfl⟩ : ∃ w1 : World, w1 = wc := ⟨_, rfl⟩
    have hc := h3.cell
    have hown := h3.own
    rw [h1] at hown
    have HP := Lib.hid (show NewBytes 32 w (.returned v) w1 from ⟨⟨v, rfl, bs, h1, h2, own_mono hown (by omega)⟩, h4⟩)
    clear h0 h1 h2 h3 h4 hown HA HLN HLX HSX c8 c9
    go_wp2_with fail
    go_ret
    exact HP.out
end Go.Proofs.YtgggpllmgnpngaaGreatDoor.Tb
