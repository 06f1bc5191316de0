/- Whether two triples are of one key, and what is cleared, walked. -/
import Derived.Test.YtkfgmjcdaggjcaaKpStable
import Derived.Lib.SliceRun
namespace Go.Proofs.Ytkfgmjcdaggjcaa.Kp
open Go Go.RowKit

theorem eq_any (x y : Tri) (hx : x.Ok) (hy : y.Ok) (w : World) :
    Calls Try.prog 7 #[.agg #[.int .i64 x.a, .int .i64 x.b, .int .i64 x.v], .agg #[.int .i64 y.a, .int .i64 y.b, .int .i64 y.v]] w fun e w' => (∃ c : Bool, e = .returned (.bool c) ∧ (c = true ↔ x.key = y.key)) ∧ Below w.heap.size w w' := by
  have hb : Below w.heap.size w ((w.alloc (.cells #[.int .i64 x.a, .int .i64 x.b, .int .i64 x.v] 27)).alloc (.cells #[.int .i64 y.a, .int .i64 y.b, .int .i64 y.v] 27)) := ((Below.refl _ _).alloc (Nat.le_refl _) _).alloc (by simp) _
  have HB := Lib.hid hb
  have h1 := hx.a
  have h2 := hx.b
  have h3 := hy.a
  have h4 := hy.b
  have HK : Hid (x.key = y.key ↔ (x.a = y.a ∧ x.b = y.b)) := Lib.hid (by unfold Tri.key; omega)
  generalize x.key = kx at *
  generalize y.key = ky at *
  generalize x.a = xa at *
  generalize x.b = xb at *
  generalize x.v = xv at *
  generalize y.a = ya at *
  generalize y.b = yb at *
  generalize y.v = yv at *
  clear hb hx hy
  by_cases ha : xa = ya
  · by_cases hb : xb = yb
    · have d1 : ((xa : Int) == ya) = true := by rw [ha]; simp
      have d2 : ((xb : Int) == yb) = true := by rw [hb]; simp
      have HR := Lib.hid (And.intro ha hb)
      clear ha hb
      go_enter Try.func7, Try.ntmps7
      go_wp2
      go_ret
      exact ⟨⟨true, rfl, ⟨fun _ => HK.out.2 HR.out, fun _ => rfl⟩⟩, HB.out⟩
    · have d1 : ((xa : Int) == ya) = true := by rw [ha]; simp
      have d2 : ((xb : Int) == yb) = false := by rw [beq_eq_false_iff_ne]; omega
      have HR := Lib.hid hb
      clear ha hb
      go_enter Try.func7, Try.ntmps7
      go_wp2
      go_ret
      exact ⟨⟨false, rfl, ⟨fun h => by simp at h, fun h => absurd (HK.out.1 h).2 HR.out⟩⟩, HB.out⟩
  · have d1 : ((xa : Int) == ya) = false := by rw [beq_eq_false_iff_ne]; omega
    have HR := Lib.hid ha
    clear ha
    go_enter Try.func7, Try.ntmps7
    go_wp2
    go_ret
    exact ⟨⟨false, rfl, ⟨fun h => by simp at h, fun h => absurd (HK.out.1 h).1 HR.out⟩⟩, HB.out⟩
end Go.Proofs.Ytkfgmjcdaggjcaa.Kp
