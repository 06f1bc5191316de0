/-
  For every list of pairs and every two glyphs the law FnKernPair returns true and leaves its arguments as they were; no condition.
-/
import Derived.Test.YtkfgmjcdaggjcaaRows
import Derived.Test.YtkfgmjcdaggjcaaKpLaw
import Derived.WalkKit
import Derived.ProofKit
import Derived.OpenShut
import Derived.ShutString
import Derived.ChangeOld
import Derived.Below
import Derived.Deep.Slices
import Derived.Laws.IdiomArrays
namespace Go.Proofs.Ytkfgmjcdaggjcaa.fnKernPair
open Go.ChangeShapes Go.WideShapes Go.ChangeAt Go.RowKit
open Go.ChangeMaps (open_string shut_string)
set_option linter.unusedVariables false

theorem own : ownKnob Try.prog.godebug = none := by kernel_rfl
theorem laidOut : laidOutB Try.prog = true := by kernel_rfl

theorem wf_i16 (n : Int) (h : (Lit.int .i16 n).wf = true) : -32768 ≤ n ∧ n ≤ 32767 := by
  simp [Lit.wf, IntKind.min, IntKind.max, IntKind.bits, IntKind.signed] at h
  omega
theorem wf_u8 (n : Int) (h : (Lit.int .u8 n).wf = true) : 0 ≤ n ∧ n < (256 : Nat) := by
  simp [Lit.wf, IntKind.min, IntKind.max, IntKind.bits, IntKind.signed] at h
  omega

/-! ### STEP 1: THE WALK -/
theorem walk (a0 : Option Addr) (len0 cap0 : Nat) (n m : Int) (w : World) (w0 : len0 ≤ 9223372036854775807 ∧ Kp.Came w a0 len0) (wn : (Lit.int .u8 n).wf = true) (wm : (Lit.int .u8 m).wf = true) :
    Calls Try.prog 3 #[.slice a0 len0 cap0, .int .u8 n, .int .u8 m] w fun e w' => e = .returned (.bool true) ∧ Below w.heap.size w w' := by
  obtain ⟨h0, h1⟩ := wf_u8 n wn
  obtain ⟨g0, g1⟩ := wf_u8 m wm
  obtain ⟨a, rfl⟩ : ∃ a : Nat, n = a := ⟨n.toNat, by omega⟩
  obtain ⟨b, rfl⟩ : ∃ b : Nat, m = b := ⟨m.toNat, by omega⟩
  by_cases hl : 2147483647 < len0
  · exact Kp.long_any len0 cap0 a b a0 w hl w0.1
  · exact Kp.law_any len0 cap0 a b a0 w (by omega) (by omega) (by omega) w0.2

/-! ### THE ROW's STEP: WRITTEN OUT: LEAVE IT -/
set_option maxRecDepth 100000 in
theorem lifted (os : Os) (started : os.Started) (H : Type) (enc : TypeId × Value → H) :
    ReturnsInHanded {} Try.checked os 3 .any (Rows.fnKernPairSpec.pre6 enc Try.prog Try.f3 Rows.fnKernPairRow.domain false) (Rows.fnKernPairSpec.post enc Try.prog Try.f3 false true false false) := by
  refine returnsInHanded_of_change (C := Try.checked) own started (by kernel_rfl) Try.func3
    (ChangeSpec.witness6 (enc := enc) (C := Try.checked) false ⟨#[], #[.slice none 0 0, .int .u8 0, .int .u8 0], []⟩ 8 (by kernel_rfl) (by kernel_rfl) (by kernel_rfl) (by kernel_rfl)) ?_
  intro W base args ds gs before hval0 hW hcnd _
  have hval : ∀ (j : Nat) t v, Try.f3.params[j]? = some t → args[j]? = some v → Value.okWide Try.prog W .any base t v := hval0
  have hW' := hW
  obtain ⟨p, q, hA0, hV, rfl, hfz, hnd⟩ := hW
  have hA : DataW.TrodAll enc Try.prog W 0 (fun _ => true) true Try.f3.params.toList args.toList ds p := hA0
  rw [Try.params3] at hA hval
  obtain ⟨v0, vs0, d0, ds0, p0, q0, hargs, rfl, rfl, h0, r0⟩ := trodAll_cons hA
  obtain ⟨v1, vs1, d1, ds1, p1, q1, rfl, rfl, rfl, h1, r1⟩ := trodAll_cons r0
  obtain ⟨v2, vs2, d2, ds2, p2, q2, rfl, rfl, rfl, h2, r2⟩ := trodAll_cons r1
  obtain ⟨rfl, rfl, rfl⟩ := trodAll_nil r2
  obtain rfl : args = #[v0, v1, v2] := by cases args; simp_all
  obtain ⟨rfl, rfl⟩ := trodVars_none hV
  obtain ⟨a0, len0, cap0, rfl⟩ := okWide_slice Try.underlying22 (hval 0 22 v0 rfl rfl)
  have k0 := h0
  have lt0 : ∀ x ∈ p0, x.block < W.heap.size := by obtain ⟨m, hm⟩ := k0; exact DataW.trod_lt m _ _ _ hm
  have w0 : len0 ≤ 9223372036854775807 ∧ Kp.Came W a0 len0 := by
    obtain ⟨fuel, hf⟩ := h0
    rcases Go.Deep.open_slice Try.underlying22 hf with ⟨hcs, _⟩ | ⟨x, l, c, m, nn, D, Pl, hcs, _, hl, hm, hmm, _, hcell⟩
    · simp [Value.cells] at hcs
      obtain ⟨rfl, rfl, rfl⟩ := hcs
      exact ⟨by omega, fun h => by omega⟩
    · simp [Value.cells] at hcs
      obtain ⟨rfl, rfl, rfl⟩ := hcs
      have hlm : len0 ≤ m := by rw [hmm]; split <;> omega
      refine ⟨by unfold maxLen at hm; omega, fun hp => ?_⟩
      have hc3 : Try.prog.cellsOf 26 = 3 := by kernel_rfl
      have hc1 : Try.prog.cellsOf 25 = 1 := by kernel_rfl
      rw [hc3] at hcell
      obtain ⟨b, off, spot⟩ := x
      have hspot : spot = none := by
        obtain ⟨cs', h1, h2⟩ := hcell 0 (by omega)
        obtain ⟨_, hlen, hat⟩ := World.cells?_some h1
        have := hat 0 (by omega)
        rw [List.getElem?_eq_getElem (by omega)] at this
        simpa [Addr.add] using World.cell?_spot this
      subst hspot
      refine ⟨b, off, rfl, fun j hj => ?_⟩
      obtain ⟨cs', h1, h2⟩ := hcell j (by omega)
      obtain ⟨_, hlen, hat⟩ := World.cells?_some h1
      match cs', hlen with
      | [c0, c1, c2], _ =>
        obtain ⟨y0, y1, y2, fu, _, t0, t1, t2⟩ := trod_array3 Try.underlying26 hc1 h2
        obtain ⟨x, e0, _, f0⟩ := DataW.trod_int Try.underlying25 t0
        obtain ⟨y, e1, _, f1⟩ := DataW.trod_int Try.underlying25 t1
        obtain ⟨z, e2, _, f2⟩ := DataW.trod_int Try.underlying25 t2
        simp at e0 e1 e2
        subst e0 e1 e2
        have g0 := hat 0 (by omega)
        have g1 := hat 1 (by omega)
        have g2 := hat 2 (by omega)
        rw [Addr.add_lit, Addr.add_lit] at g0 g1 g2
        exact ⟨x, y, z, wf_i16 _ f0, wf_i16 _ f1, wf_i16 _ f2, by simpa using g0, by simpa using g1, by simpa using g2⟩
  obtain ⟨n1, rfl, rfl, rfl, wn⟩ := open_int Try.underlying5 (hval 1 5 v1 rfl rfl) h1
  obtain ⟨n2, rfl, rfl, rfl, wm⟩ := open_int Try.underlying5 (hval 2 5 v2 rfl rfl) h2
  clear hA0 hval0
  refine (walk a0 len0 cap0 n1 n2 W w0 wn wm).mono fun e W' ⟨he, bel⟩ => ?_
  subst he
  exact ⟨_, rfl, _, _, _, [], _, [], hW', trodAll_mk1 (shut_bool Try.underlying4 _), (trodAll_cons_mk (Below.trod laidOut (by kernel_rfl) (of_decide_eq_true (by kernel_rfl)) k0 bel lt0) (trodAll_cons_mk (shut_int Try.underlying5 wn) (trodAll_cons_mk (shut_int Try.underlying5 wm) trodAll_mk0))), rfl, bel.frame _, fun h => by cases h⟩

theorem over : Rows.fnKernPairRow.holds Try.pinned (OpenSpec.ofChange Rows.fnKernPairSpec) :=
  OpenClaim.holds_of_wide 3 Try.f3 rfl rfl rfl rfl rfl rfl rfl ⟨rfl, rfl, rfl, rfl, rfl⟩ rfl rfl rfl rfl rfl (by kernel_rfl) Try.func3 (by kernel_rfl)
    (of_decide_eq_true (by kernel_rfl)) (by unfold Func.isWrapper; first | (rw [if_pos (by decide +kernel)]; kernel_rfl) | (rw [if_neg (by decide +kernel)]; exact ⟨rfl, rfl⟩))
    (fun os started H enc _ => lifted os started H enc)

/-- ████ THE STATEMENT ████ -/
theorem proved : Rows.FnKernPairSaid := over
#print axioms proved
end Go.Proofs.Ytkfgmjcdaggjcaa.fnKernPair
