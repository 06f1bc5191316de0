/-
  For every list of regions, lists, items, coordinates, bytes and two numbers the law FnStoreDelta returns true and leaves its arguments as they were; no condition.
-/
import Derived.Test.YtdknpamegphjlaaRows
import Derived.Test.YtdknpamegphjlaaLaw
import Derived.WalkKit
import Derived.ProofKit
import Derived.OpenShut
import Derived.ShutString
import Derived.ChangeOld
import Derived.Below
import Derived.Deep.Slices
import Derived.Laws.IdiomArrays
namespace Go.Proofs.Ytdknpamegphjlaa.fnStoreDelta
open Go.ChangeShapes Go.WideShapes Go.ChangeAt Go.RowKit
open Go.ChangeMaps (open_string shut_string)
set_option linter.unusedVariables false

theorem own : ownKnob Try.prog.godebug = none := by kernel_rfl
theorem laidOut : laidOutB Try.prog = true := by kernel_rfl

theorem wf_i16 (n : Int) (h : (Lit.int .i16 n).wf = true) : -32768 ≤ n ∧ n ≤ 32767 := by
  simp [Lit.wf, IntKind.min, IntKind.max, IntKind.bits, IntKind.signed] at h
  omega
theorem wf_u8 (n : Int) (h : (Lit.int .u8 n).wf = true) : 0 ≤ n ∧ n < (256 : Nat) := by
  simp [Lit.wf, IntKind.min, IntKind.max, IntKind.bits, IntKind.signed] at h
  omega

/-! ### What came in -/
section
variable {H : Type} {enc : TypeId × Value → H} {w : World} {base : Nat} {spare : Nat → Bool} {held : Bool}

/-- A slice's sizes, and what its elements are. -/
def Sized (P : World → Option Addr → Nat → Prop) (w : World) (A : Option Addr) (n cap : Nat) : Prop := n ≤ cap ∧ cap ≤ 9223372036854775807 ∧ P w A n

theorem in_i16 {t e : TypeId} {fuel n cap : Nat} {A : Option Addr} {x : DataW H × List MemPlace} (ht : Try.prog.underlying t = some (.slice e)) (he : Try.prog.underlying e = some (.int .i16)) (hc : Try.prog.cellsOf e = 1)
    (h : DataW.trod enc Try.prog w base spare held fuel t [.slice A n cap] = some x) : Sized Sd.InI16 w A n cap := by
  rcases open_ints ht he hc h with ⟨hcs, _⟩ | ⟨x, l, c, zs, hcs, _, hl, hm, hz, _, hcell, hwz⟩
  · simp at hcs
    obtain ⟨rfl, rfl, rfl⟩ := hcs
    exact ⟨Nat.le_refl _, by omega, fun h => by omega⟩
  · simp at hcs
    obtain ⟨rfl, rfl, rfl⟩ := hcs
    have hzl : n ≤ zs.length := by rw [hz]; split <;> omega
    refine ⟨hl, by unfold maxLen at hm; omega, fun hp => ?_⟩
    obtain ⟨b, off, spot⟩ := x
    have hspot : spot = none := by simpa [Addr.add] using World.cell?_spot (hcell 0 (by omega))
    subst hspot
    refine ⟨b, off, rfl, fun j hj => ?_⟩
    have hc := hcell j (by omega)
    have hjz : j < zs.length := by omega
    have hg : zs.getD j 0 = zs[j] := by simp [List.getD, hjz]
    rw [Addr.add_lit, hg] at hc
    exact ⟨zs[j], wf_i16 _ (hwz _ (List.getElem_mem hjz)), hc⟩

theorem in_u8 {t e : TypeId} {fuel n cap : Nat} {A : Option Addr} {x : DataW H × List MemPlace} (ht : Try.prog.underlying t = some (.slice e)) (he : Try.prog.underlying e = some (.int .u8)) (hc : Try.prog.cellsOf e = 1)
    (h : DataW.trod enc Try.prog w base spare held fuel t [.slice A n cap] = some x) : Sized Sd.InU8 w A n cap := by
  rcases open_ints ht he hc h with ⟨hcs, _⟩ | ⟨x, l, c, zs, hcs, _, hl, hm, hz, _, hcell, hwz⟩
  · simp at hcs
    obtain ⟨rfl, rfl, rfl⟩ := hcs
    exact ⟨Nat.le_refl _, by omega, fun h => by omega⟩
  · simp at hcs
    obtain ⟨rfl, rfl, rfl⟩ := hcs
    have hzl : n ≤ zs.length := by rw [hz]; split <;> omega
    refine ⟨hl, by unfold maxLen at hm; omega, fun hp => ?_⟩
    obtain ⟨b, off, spot⟩ := x
    have hspot : spot = none := by simpa [Addr.add] using World.cell?_spot (hcell 0 (by omega))
    subst hspot
    refine ⟨b, off, rfl, fun j hj => ?_⟩
    have hc := hcell j (by omega)
    have hjz : j < zs.length := by omega
    have hg : zs.getD j 0 = zs[j] := by simp [List.getD, hjz]
    obtain ⟨h0, h1⟩ := wf_u8 _ (hwz _ (List.getElem_mem hjz))
    rw [Addr.add_lit, hg] at hc
    obtain ⟨y, hy⟩ : ∃ y : Nat, zs[j] = y := ⟨zs[j].toNat, by omega⟩
    rw [hy] at hc h1
    exact ⟨y, by omega, hc⟩

theorem in_3 {t e e1 : TypeId} {fuel n cap : Nat} {A : Option Addr} {x : DataW H × List MemPlace} (ht : Try.prog.underlying t = some (.slice e)) (he : Try.prog.underlying e = some (.array 3 e1)) (he1 : Try.prog.underlying e1 = some (.int .i16)) (hc3 : Try.prog.cellsOf e = 3) (hc1 : Try.prog.cellsOf e1 = 1)
    (h : DataW.trod enc Try.prog w base spare held fuel t [.slice A n cap] = some x) : Sized Sd.In3 w A n cap := by
  rcases Go.Deep.open_slice ht h with ⟨hcs, _⟩ | ⟨x, l, c, m, nn, D, Pl, hcs, _, hl, hm, hmm, _, hcell⟩
  · simp at hcs
    obtain ⟨rfl, rfl, rfl⟩ := hcs
    exact ⟨Nat.le_refl _, by omega, fun h => by omega⟩
  · simp at hcs
    obtain ⟨rfl, rfl, rfl⟩ := hcs
    have hlm : n ≤ m := by rw [hmm]; split <;> omega
    refine ⟨hl, by unfold maxLen at hm; omega, fun hp => ?_⟩
    rw [hc3] at hcell
    obtain ⟨b, off, spot⟩ := x
    have hspot : spot = none := by
      obtain ⟨cs', h1, h2⟩ := hcell 0 (by omega)
      obtain ⟨_, hlen, hat⟩ := World.cells?_some h1
      have := hat 0 (by omega)
      rw [List.getElem?_eq_getElem (by omega)] at this
      simpa [Addr.add] using World.cell?_spot this
    subst hspot
    refine ⟨b, off, rfl, fun j hj => ?_⟩
    obtain ⟨cs', h1, h2⟩ := hcell j (by omega)
    obtain ⟨_, hlen, hat⟩ := World.cells?_some h1
    match cs', hlen with
    | [c0, c1, c2], _ =>
      obtain ⟨y0, y1, y2, fu, _, t0, t1, t2⟩ := trod_array3 he hc1 h2
      obtain ⟨x, e0, _, f0⟩ := DataW.trod_int he1 t0
      obtain ⟨y, e1, _, f1⟩ := DataW.trod_int he1 t1
      obtain ⟨z, e2, _, f2⟩ := DataW.trod_int he1 t2
      simp at e0 e1 e2
      subst e0 e1 e2
      have g0 := hat 0 (by omega)
      have g1 := hat 1 (by omega)
      have g2 := hat 2 (by omega)
      rw [Addr.add_lit, Addr.add_lit] at g0 g1 g2
      exact ⟨x, y, z, wf_i16 _ f0, wf_i16 _ f1, wf_i16 _ f2, by simpa using g0, by simpa using g1, by simpa using g2⟩

theorem in_all {P : World → Option Addr → Nat → Prop} {t e e1 : TypeId} {fuel n cap : Nat} {A : Option Addr} {x : DataW H × List MemPlace} (ht : Try.prog.underlying t = some (.slice e)) (he : Try.prog.underlying e = some (.slice e1)) (hc : Try.prog.cellsOf e = 1)
    (leaf : ∀ {fuel n cap : Nat} {A : Option Addr} {x : DataW H × List MemPlace}, DataW.trod enc Try.prog w base spare held fuel e [.slice A n cap] = some x → Sized P w A n cap)
    (h : DataW.trod enc Try.prog w base spare held fuel t [.slice A n cap] = some x) : Sized (Sd.InAll P) w A n cap := by
  rcases Go.Deep.open_slice1 ht hc h with ⟨hcs, _⟩ | ⟨x, l, c, m, nn, V, D, Pl, hcs, _, hl, hm, hmm, _, hcell⟩
  · simp at hcs
    obtain ⟨rfl, rfl, rfl⟩ := hcs
    exact ⟨Nat.le_refl _, by omega, fun h => by omega⟩
  · simp at hcs
    obtain ⟨rfl, rfl, rfl⟩ := hcs
    have hlm : n ≤ m := by rw [hmm]; split <;> omega
    refine ⟨hl, by unfold maxLen at hm; omega, fun hp => ?_⟩
    obtain ⟨b, off, spot⟩ := x
    have hspot : spot = none := by simpa [Addr.add] using World.cell?_spot (hcell 0 (by omega)).1
    subst hspot
    refine ⟨b, off, rfl, fun j hj => ?_⟩
    obtain ⟨h1, h2⟩ := hcell j (by omega)
    rw [Addr.add_lit] at h1
    obtain ⟨A', n', c', hV⟩ : ∃ A' n' c', V j = .slice A' n' c' := by
      rcases Go.Deep.open_slice he h2 with ⟨hcs, _⟩ | ⟨y, l, c, _, _, _, _, hcs, _⟩
      · simp at hcs; exact ⟨_, _, _, hcs⟩
      · simp at hcs; exact ⟨_, _, _, hcs⟩
    rw [hV] at h1 h2
    obtain ⟨s1, s2, s3⟩ := leaf h2
    exact ⟨A', n', c', by omega, h1, s3⟩
end

/-! ### STEP 1: THE WALK -/
theorem walk (a0 a1 a2 a5 a6 : Option Addr) (len0 len1 len2 len5 len6 cap0 cap1 cap2 cap5 cap6 : Nat) (n m : Int) (w : World) (w0 : Sized (Sd.InAll Sd.In3) w a0 len0 cap0) (w1 : Sized (Sd.InAll Sd.InU8) w a1 len1 cap1) (w2 : Sized (Sd.InAll Sd.InI16) w a2 len2 cap2) (wn : (Lit.int .u8 n).wf = true) (wm : (Lit.int .u8 m).wf = true) (w5 : Sized Sd.InI16 w a5 len5 cap5) (w6 : Sized Sd.InU8 w a6 len6 cap6) :
    Calls Try.prog 3 #[.slice a0 len0 cap0, .slice a1 len1 cap1, .slice a2 len2 cap2, .int .u8 n, .int .u8 m, .slice a5 len5 cap5, .slice a6 len6 cap6] w fun e w' => e = .returned (.bool true) ∧ Below w.heap.size w w' := by
  obtain ⟨h0, h1⟩ := wf_u8 n wn
  obtain ⟨g0, g1⟩ := wf_u8 m wm
  obtain ⟨a, rfl⟩ : ∃ a : Nat, n = a := ⟨n.toNat, by omega⟩
  obtain ⟨b, rfl⟩ : ∃ b : Nat, m = b := ⟨m.toNat, by omega⟩
  obtain ⟨p0, q0, r0⟩ := w0
  obtain ⟨p1, q1, r1⟩ := w1
  obtain ⟨p2, q2, r2⟩ := w2
  obtain ⟨p5, q5, r5⟩ := w5
  obtain ⟨p6, q6, r6⟩ := w6
  exact Sd.law_any len0 len1 len2 len5 len6 cap0 cap1 cap2 cap5 cap6 a b a0 a1 a2 a5 a6 w (by omega) (by omega) (by omega) (by omega) (by omega) r0 r1 r2 r5 r6 p5 q5 (by omega) (by omega)

/-! ### THE ROW's STEP: WRITTEN OUT: LEAVE IT -/
set_option maxRecDepth 100000 in
theorem lifted (os : Os) (started : os.Started) (H : Type) (enc : TypeId × Value → H) :
    ReturnsInHanded {} Try.checked os 3 .any (Rows.fnStoreDeltaSpec.pre6 enc Try.prog Try.f3 Rows.fnStoreDeltaRow.domain false) (Rows.fnStoreDeltaSpec.post enc Try.prog Try.f3 false true false false) := by
  refine returnsInHanded_of_change (C := Try.checked) own started (by kernel_rfl) Try.func3
    (ChangeSpec.witness6 (enc := enc) (C := Try.checked) false ⟨#[], #[.slice none 0 0, .slice none 0 0, .slice none 0 0, .int .u8 0, .int .u8 0, .slice none 0 0, .slice none 0 0], []⟩ 8 (by kernel_rfl) (by kernel_rfl) (by kernel_rfl) (by kernel_rfl)) ?_
  intro W base args ds gs before hval0 hW hcnd _
  have hval : ∀ (j : Nat) t v, Try.f3.params[j]? = some t → args[j]? = some v → Value.okWide Try.prog W .any base t v := hval0
  have hW' := hW
  obtain ⟨p, q, hA0, hV, rfl, hfz, hnd⟩ := hW
  have hA : DataW.TrodAll enc Try.prog W 0 (fun _ => true) true Try.f3.params.toList args.toList ds p := hA0
  rw [Try.params3] at hA hval
  obtain ⟨v0, vs0, d0, ds0, p0, q0, hargs, rfl, rfl, h0, r0⟩ := trodAll_cons hA
  obtain ⟨v1, vs1, d1, ds1, p1, q1, rfl, rfl, rfl, h1, r1⟩ := trodAll_cons r0
  obtain ⟨v2, vs2, d2, ds2, p2, q2, rfl, rfl, rfl, h2, r2⟩ := trodAll_cons r1
  obtain ⟨v3, vs3, d3, ds3, p3, q3, rfl, rfl, rfl, h3, r3⟩ := trodAll_cons r2
  obtain ⟨v4, vs4, d4, ds4, p4, q4, rfl, rfl, rfl, h4, r4⟩ := trodAll_cons r3
  obtain ⟨v5, vs5, d5, ds5, p5, q5, rfl, rfl, rfl, h5, r5⟩ := trodAll_cons r4
  obtain ⟨v6, vs6, d6, ds6, p6, q6, rfl, rfl, rfl, h6, r6⟩ := trodAll_cons r5
  obtain ⟨rfl, rfl, rfl⟩ := trodAll_nil r6
  obtain rfl : args = #[v0, v1, v2, v3, v4, v5, v6] := by cases args; simp_all
  obtain ⟨rfl, rfl⟩ := trodVars_none hV
  obtain ⟨a0, len0, cap0, rfl⟩ := okWide_slice Try.underlying22 (hval 0 22 v0 rfl rfl)
  have k0 := h0
  have lt0 : ∀ x ∈ p0, x.block < W.heap.size := by obtain ⟨m, hm⟩ := k0; exact DataW.trod_lt m _ _ _ hm
  have w0 : Sized (Sd.InAll Sd.In3) W a0 len0 cap0 := by
    obtain ⟨fuel, hf⟩ := h0
    exact in_all Try.underlying22 Try.underlying45 (by kernel_rfl) (fun h => in_3 Try.underlying45 Try.underlying74 Try.underlying51 (by kernel_rfl) (by kernel_rfl) h) hf
  obtain ⟨a1, len1, cap1, rfl⟩ := okWide_slice Try.underlying23 (hval 1 23 v1 rfl rfl)
  have k1 := h1
  have lt1 : ∀ x ∈ p1, x.block < W.heap.size := by obtain ⟨m, hm⟩ := k1; exact DataW.trod_lt m _ _ _ hm
  have w1 : Sized (Sd.InAll Sd.InU8) W a1 len1 cap1 := by
    obtain ⟨fuel, hf⟩ := h1
    exact in_all Try.underlying23 Try.underlying26 (by kernel_rfl) (fun h => in_u8 Try.underlying26 Try.underlying5 (by kernel_rfl) h) hf
  obtain ⟨a2, len2, cap2, rfl⟩ := okWide_slice Try.underlying24 (hval 2 24 v2 rfl rfl)
  have k2 := h2
  have lt2 : ∀ x ∈ p2, x.block < W.heap.size := by obtain ⟨m, hm⟩ := k2; exact DataW.trod_lt m _ _ _ hm
  have w2 : Sized (Sd.InAll Sd.InI16) W a2 len2 cap2 := by
    obtain ⟨fuel, hf⟩ := h2
    exact in_all Try.underlying24 Try.underlying25 (by kernel_rfl) (fun h => in_i16 Try.underlying25 Try.underlying51 (by kernel_rfl) h) hf
  obtain ⟨n3, rfl, rfl, rfl, wn⟩ := open_int Try.underlying5 (hval 3 5 v3 rfl rfl) h3
  obtain ⟨n4, rfl, rfl, rfl, wm⟩ := open_int Try.underlying5 (hval 4 5 v4 rfl rfl) h4
  obtain ⟨a5, len5, cap5, rfl⟩ := okWide_slice Try.underlying25 (hval 5 25 v5 rfl rfl)
  have k5 := h5
  have lt5 : ∀ x ∈ p5, x.block < W.heap.size := by obtain ⟨m, hm⟩ := k5; exact DataW.trod_lt m _ _ _ hm
  have w5 : Sized Sd.InI16 W a5 len5 cap5 := by
    obtain ⟨fuel, hf⟩ := h5
    exact in_i16 Try.underlying25 Try.underlying51 (by kernel_rfl) hf
  obtain ⟨a6, len6, cap6, rfl⟩ := okWide_slice Try.underlying26 (hval 6 26 v6 rfl rfl)
  have k6 := h6
  have lt6 : ∀ x ∈ p6, x.block < W.heap.size := by obtain ⟨m, hm⟩ := k6; exact DataW.trod_lt m _ _ _ hm
  have w6 : Sized Sd.InU8 W a6 len6 cap6 := by
    obtain ⟨fuel, hf⟩ := h6
    exact in_u8 Try.underlying26 Try.underlying5 (by kernel_rfl) hf
  clear hA0 hval0
  refine (walk a0 a1 a2 a5 a6 len0 len1 len2 len5 len6 cap0 cap1 cap2 cap5 cap6 n3 n4 W w0 w1 w2 wn wm w5 w6).mono fun e W' ⟨he, bel⟩ => ?_
  subst he
  exact ⟨_, rfl, _, _, _, [], _, [], hW', trodAll_mk1 (shut_bool Try.underlying4 _),
    (trodAll_cons_mk (Below.trod laidOut (by kernel_rfl) (of_decide_eq_true (by kernel_rfl)) k0 bel lt0)
    (trodAll_cons_mk (Below.trod laidOut (by kernel_rfl) (of_decide_eq_true (by kernel_rfl)) k1 bel lt1)
    (trodAll_cons_mk (Below.trod laidOut (by kernel_rfl) (of_decide_eq_true (by kernel_rfl)) k2 bel lt2)
    (trodAll_cons_mk (shut_int Try.underlying5 wn)
    (trodAll_cons_mk (shut_int Try.underlying5 wm)
    (trodAll_cons_mk (Below.trod laidOut (by kernel_rfl) (of_decide_eq_true (by kernel_rfl)) k5 bel lt5)
    (trodAll_cons_mk (Below.trod laidOut (by kernel_rfl) (of_decide_eq_true (by kernel_rfl)) k6 bel lt6)
    trodAll_mk0))))))), rfl, bel.frame _, fun h => by cases h⟩

theorem over : Rows.fnStoreDeltaRow.holds Try.pinned (OpenSpec.ofChange Rows.fnStoreDeltaSpec) :=
  OpenClaim.holds_of_wide 3 Try.f3 rfl rfl rfl rfl rfl rfl rfl ⟨rfl, rfl, rfl, rfl, rfl⟩ rfl rfl rfl rfl rfl (by kernel_rfl) Try.func3 (by kernel_rfl)
    (of_decide_eq_true (by kernel_rfl)) (by unfold Func.isWrapper; first | (rw [if_pos (by decide +kernel)]; kernel_rfl) | (rw [if_neg (by decide +kernel)]; exact ⟨rfl, rfl⟩))
    (fun os started H enc _ => lifted os started H enc)

/-- ████ THE STATEMENT ████ -/
theorem proved : Rows.FnStoreDeltaSaid := over
#print axioms proved
end Go.Proofs.Ytdknpamegphjlaa.fnStoreDelta
