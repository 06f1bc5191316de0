/-
  For every numbers, advances, choice and ways the law FnTablesOf returns true and leaves its arguments as they were; the condition is that three errors of package io hold what their initialisers lay, and the card ties that to the program's text.
-/
import Derived.Test.YtgggpllmgnpngaaGreatDoorTbBytes
import Derived.Test.YtgggpllmgnpngaaGreatDoorTbFile
import Derived.Test.YtgggpllmgnpngaaGreatDoorRows
import Derived.Test.YtgggpllmgnpngaaGreatDoorTie
import Derived.Test.YtgggpllmgnpngaaGreatDoorCards
import Derived.WalkKit
import Derived.ProofKit
import Derived.OpenShut
import Derived.ShutString
import Derived.ChangeOld
import Derived.Below
import Derived.LaidMore
import Derived.Stop.Joined
import Derived.SevenTiedAt
namespace Go.Proofs.YtgggpllmgnpngaaGreatDoor.Tb
open Go Go.RowKit

theorem law_whole (n0 n1 n3 c0 c1 c3 x : Nat) (A0 A1 A3 : Option Addr) (w : World) (hx : x < 256) (h0 : n0 ≤ 9223372036854775807) (h1 : n1 ≤ 9223372036854775807) (hm : InI16 w A0 n0) (ha : InU16 A1 n1 w) (h3 : InU8 w A3 n3) :
    Calls Tryz.prog 3 #[.slice A0 n0 c0, .slice A1 n1 c1, .int .u8 (x : Nat), .slice A3 n3 c3] w fun e w' => e = .returned (.bool true) ∧ Below w.heap.size w w' :=
  law_any n0 n1 n3 c0 c1 c3 x A0 A1 A3 w hx (file_any n0 n1 c0 c1 A0 A1 w h0 h1 hm ha) fun hn3 M b7 b16 b17 G k cap W hl h0 h40 hc hc2 hadv hb =>
    bytes_any M b7 b16 b17 G k cap n3 c3 A3 W hl ⟨h0, h40, hc, hc2⟩ hadv hn3 (old_u8 h3 hb)
end Go.Proofs.YtgggpllmgnpngaaGreatDoor.Tb

namespace Go.Proofs.YtgggpllmgnpngaaGreatDoor.fnTablesOf
open Go.ChangeShapes Go.WideShapes Go.ChangeAt Go.RowKit

theorem own : ownKnob Tryz.prog.godebug = none := by kernel_rfl
theorem laidOut : laidOutB Tryz.prog = true := by kernel_rfl
def laid3 : List (String × DataW Unit) := [("io.ErrShortBuffer", Rows.laid_io_ErrShortBuffer), ("io.EOF", Rows.laid_io_EOF), ("io.ErrUnexpectedEOF", Rows.laid_io_ErrUnexpectedEOF)]

/-- The door's own heap meets the condition. -/
theorem door_met (os : Os) (args : Array Value) : laidMetH Tryz.prog laid3 ((World.doorLaid Tryz.prog 66 os).forCall (fun _ _ => 0) ⟨#[], args, []⟩).memory :=
  laidMetH_of_parts3 (fuel := 8) (laidMet_of_run' 8 (by kernel_rfl) (by kernel_rfl)) (by kernel_rfl) (by kernel_rfl)

/-- A slice of whole numbers that came in. -/
def Came (q : IntKind) (w : World) (A : Option Addr) (n : Nat) : Prop :=
  n ≤ 9223372036854775807 ∧ (0 < n → ∃ b off, A = some ⟨b, off, none⟩ ∧ ∀ j, j < n → ∃ x : Int, (Lit.int q x).wf = true ∧ w.cell? ⟨b, off + j, none⟩ = some (.int q x))
theorem wf_u8 (n : Int) (h : (Lit.int .u8 n).wf = true) : 0 ≤ n ∧ n < 256 := by
  simp [Lit.wf, IntKind.min, IntKind.max, IntKind.bits, IntKind.signed] at h
  omega
theorem came_i16 {w : World} {A : Option Addr} {n : Nat} (h : Came .i16 w A n) : Tb.InI16 w A n := fun hn => by
  obtain ⟨b, off, e, hc⟩ := h.2 hn
  refine ⟨b, off, e, fun j hj => ?_⟩
  obtain ⟨x, hx, hcell⟩ := hc j hj
  simp [Lit.wf, IntKind.min, IntKind.max, IntKind.bits, IntKind.signed] at hx
  exact ⟨x, by omega, hcell⟩
theorem came_u16 {w : World} {A : Option Addr} {n : Nat} (h : Came .u16 w A n) : Tb.InU16 A n w := ⟨fun hn => by
  obtain ⟨b, off, e, hc⟩ := h.2 hn
  refine ⟨b, off, e, fun j hj => ?_⟩
  obtain ⟨x, hx, hcell⟩ := hc j hj
  simp [Lit.wf, IntKind.min, IntKind.max, IntKind.bits, IntKind.signed] at hx
  obtain ⟨y, rfl⟩ : ∃ y : Nat, x = y := ⟨x.toNat, by omega⟩
  exact ⟨y, by omega, hcell⟩⟩
theorem came_u8 {w : World} {A : Option Addr} {n : Nat} (h : Came .u8 w A n) : Tb.InU8 w A n := fun hn => by
  obtain ⟨b, off, e, hc⟩ := h.2 hn
  refine ⟨b, off, e, fun j hj => ?_⟩
  obtain ⟨x, hx, hcell⟩ := hc j hj
  simp [Lit.wf, IntKind.min, IntKind.max, IntKind.bits, IntKind.signed] at hx
  obtain ⟨y, rfl⟩ : ∃ y : Nat, x = y := ⟨x.toNat, by omega⟩
  exact ⟨y, by omega, hcell⟩

theorem walk (a0 a1 a3 : Option Addr) (n0 n1 n3 c0 c1 c3 : Nat) (x : Int) (w : World) (w0 : Came .i16 w a0 n0) (w1 : Came .u16 w a1 n1) (wx : (Lit.int .u8 x).wf = true) (w3 : Came .u8 w a3 n3) :
    Calls Tryz.prog 3 #[.slice a0 n0 c0, .slice a1 n1 c1, .int .u8 x, .slice a3 n3 c3] w fun e w' => e = .returned (.bool true) ∧ Below w.heap.size w w' := by
  obtain ⟨h0, h1⟩ := wf_u8 x wx
  obtain ⟨y, rfl⟩ : ∃ y : Nat, x = y := ⟨x.toNat, by omega⟩
  exact Tb.law_whole n0 n1 n3 c0 c1 c3 y a0 a1 a3 w (by omega) w0.1 w1.1 (came_i16 w0) (came_u16 w1) (came_u8 w3)

theorem came_of {H : Type} {enc : TypeId × Value → H} {W : World} {t e : TypeId} {q : IntKind} (ht : Tryz.prog.underlying t = some (.slice e)) (he : Tryz.prog.underlying e = some (.int q)) (hc : Tryz.prog.cellsOf e = 1) {a : Option Addr} {n c : Nat} {d : DataW H} {p : List MemPlace}
    (h : DataW.Trod enc Tryz.prog W 0 (fun _ => true) true t (.slice a n c) d p) : Came q W a n := by
  obtain ⟨fuel, hf⟩ := h
  rcases open_ints ht he hc hf with ⟨hcs, _⟩ | ⟨x, l, k, zs, hcs, _, hl, hm, hz, _, hcell, hwz⟩
  · simp [Value.cells] at hcs
    obtain ⟨rfl, rfl, rfl⟩ := hcs
    exact ⟨by omega, fun h => by omega⟩
  · simp [Value.cells] at hcs
    obtain ⟨rfl, rfl, rfl⟩ := hcs
    have hz' : zs.length = c := by simpa using hz
    refine ⟨by unfold maxLen at hm; omega, fun hpos => ?_⟩
    obtain ⟨b, off, spot⟩ := x
    have hspot : spot = none := by simpa [Addr.add] using World.cell?_spot (hcell 0 (by omega))
    subst hspot
    refine ⟨b, off, rfl, fun j hj => ?_⟩
    have hj2 : j < zs.length := by omega
    have := hcell j hj2
    rw [Addr.add_lit] at this
    exact ⟨_, hwz _ (List.getElem_mem hj2), by simpa [hj2] using this⟩

set_option maxRecDepth 100000 in
theorem lifted (os : Os) (started : os.Started) (H : Type) (enc : TypeId × Value → H) :
    ReturnsInHanded {} Tryz.checked os 3 .any (fun w args => (Rows.fnTablesOfSpec.pre enc Tryz.prog Tryz.f3 [] false w args ∧ laidMetH Tryz.prog laid3 w) ∧ sizedMet enc Tryz.prog Tryz.f3 (OpenSpec.ofChange Rows.fnTablesOfSpec) false w args)
      (Rows.fnTablesOfSpec.post enc Tryz.prog Tryz.f3 false true false false) := by
  refine returnsInHanded_of_change_and (C := Tryz.checked) (X := fun w _ => laidMetH Tryz.prog laid3 w) (fun _ _ _ hh h => h.of_heap hh) own started (by kernel_rfl) Tryz.func3
    (ChangeSpec.witness_shaped (enc := enc) (C := Tryz.checked) (os := os) (X := fun w _ => laidMetH Tryz.prog laid3 w) false (World.doorLaid Tryz.prog 66 os) #[.slice none 0 0, .slice none 0 0, .int .u8 0, .slice none 0 0] 8 rfl (World.shaped_of_RefB (by kernel_rfl) (by kernel_rfl)) (by kernel_rfl) (by kernel_rfl) (by kernel_rfl) (door_met os _)) ?_
  intro W base args ds gs before hval0 hW _ _ _ _
  have hval : ∀ (j : Nat) t v, Tryz.f3.params[j]? = some t → args[j]? = some v → Value.okWide Tryz.prog W .any base t v := hval0
  have hW' := hW
  obtain ⟨p, q, hA0, hV, rfl, hfz, hnd⟩ := hW
  have hA : DataW.TrodAll enc Tryz.prog W 0 (fun _ => true) true Tryz.f3.params.toList args.toList ds p := hA0
  rw [Tryz.params3] at hA hval
  obtain ⟨v0, vs0, d0, ds0, p0, q0, hargs, rfl, rfl, h0, r0⟩ := trodAll_cons hA
  obtain ⟨v1, vs1, d1, ds1, p1, q1, rfl, rfl, rfl, h1, r1⟩ := trodAll_cons r0
  obtain ⟨v2, vs2, d2, ds2, p2, q2, rfl, rfl, rfl, h2, r2⟩ := trodAll_cons r1
  obtain ⟨v3, vs3, d3, ds3, p3, q3, rfl, rfl, rfl, h3, r3⟩ := trodAll_cons r2
  obtain ⟨rfl, rfl, rfl⟩ := trodAll_nil r3
  obtain rfl : args = #[v0, v1, v2, v3] := by cases args; simp_all
  obtain ⟨rfl, rfl⟩ := trodVars_none hV
  obtain ⟨a0, n0, c0, rfl⟩ := okWide_slice Tryz.underlying22 (hval 0 22 v0 rfl rfl)
  obtain ⟨a1, n1, c1, rfl⟩ := okWide_slice Tryz.underlying23 (hval 1 23 v1 rfl rfl)
  obtain ⟨a3, n3, c3, rfl⟩ := okWide_slice Tryz.underlying24 (hval 3 24 v3 rfl rfl)
  have k0 := h0
  have k1 := h1
  have k3 := h3
  have lt0 : ∀ x ∈ p0, x.block < W.heap.size := by obtain ⟨m, hm⟩ := k0; exact DataW.trod_lt m _ _ _ hm
  have lt1 : ∀ x ∈ p1, x.block < W.heap.size := by obtain ⟨m, hm⟩ := k1; exact DataW.trod_lt m _ _ _ hm
  have lt3 : ∀ x ∈ p3, x.block < W.heap.size := by obtain ⟨m, hm⟩ := k3; exact DataW.trod_lt m _ _ _ hm
  have w0 := came_of Tryz.underlying22 Tryz.underlying46 (by kernel_rfl) h0
  have w1 := came_of Tryz.underlying23 Tryz.underlying48 (by kernel_rfl) h1
  have w3 := came_of Tryz.underlying24 Tryz.underlying5 (by kernel_rfl) h3
  obtain ⟨n2, rfl, rfl, rfl, wn⟩ := open_int Tryz.underlying5 (hval 2 5 v2 rfl rfl) h2
  clear hA0 hval0
  refine (walk a0 a1 a3 n0 n1 n3 c0 c1 c3 n2 W w0 w1 wn w3).mono fun e W' ⟨he, bel⟩ => ?_
  subst he
  exact ⟨_, rfl, _, _, _, [], _, [], hW', trodAll_mk1 (shut_bool Tryz.underlying4 _), (trodAll_cons_mk (Below.trod laidOut (by kernel_rfl) (of_decide_eq_true (by kernel_rfl)) k0 bel lt0) (trodAll_cons_mk (Below.trod laidOut (by kernel_rfl) (of_decide_eq_true (by kernel_rfl)) k1 bel lt1) (trodAll_cons_mk (shut_int Tryz.underlying5 wn) (trodAll_cons_mk (Below.trod laidOut (by kernel_rfl) (of_decide_eq_true (by kernel_rfl)) k3 bel lt3) trodAll_mk0)))), rfl, bel.frame _, fun h => by cases h⟩

theorem row_holds : Rows.FnTablesOfSaid :=
  OpenClaim.holds_of_wide 3 Tryz.f3 rfl rfl rfl rfl rfl rfl rfl ⟨rfl, rfl, rfl, rfl, rfl⟩ rfl rfl rfl rfl rfl (by kernel_rfl) Tryz.func3 (by kernel_rfl)
    (of_decide_eq_true (by kernel_rfl)) (by unfold Func.isWrapper; first | (rw [if_pos (by decide +kernel)]; kernel_rfl) | (rw [if_neg (by decide +kernel)]; exact ⟨rfl, rfl⟩))
    (fun os started H enc _ => lifted os started H enc)

/-- ████ THE STATEMENT: the tied card. ████ -/
theorem proved : Rows.FnTablesOfCardSaid :=
  Claim7.holds_tied_plain_at .later [] [.sentinel, .sentinel, .sentinel] true (true, "9a52afb34fb4fdffeea9ff294d3d36daea58826163b374c185c056c7d7f65cc8") true
    row_holds (fun _ h => by cases h) (by kernel_rfl) (fun _ h => by cases h) fnTablesOf_row_tie rfl ⟨rfl, rfl⟩ (by kernel_rfl) rfl
    (fun f fn hf hfn => by
      obtain rfl : f = 3 := Option.some.inj ((show Tryz.prog.funcNamed "given.example/pub-punchcutter/laws.FnTablesOf" = some 3 by kernel_rfl).symm.trans hf) |>.symm
      obtain rfl : fn = Tryz.f3 := (Option.some.inj (Tryz.func3.symm.trans hfn)).symm
      exact ⟨by kernel_rfl, fun j t ht => by
        rw [Tryz.params3] at ht
        have hm : t ∈ [22, 23, 5, 24] := by simpa using Array.mem_of_getElem? ht
        have hall : ([22, 23, 5, 24].all fun u => !Tryz.prog.wantsStandIn u) = true := by kernel_rfl
        exact (show Tryz.prog.wantsStandIn t = false by simpa using List.all_eq_true.1 hall t hm)⟩)
    (by kernel_rfl)
#print axioms proved
end Go.Proofs.YtgggpllmgnpngaaGreatDoor.fnTablesOf
