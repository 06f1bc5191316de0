/- The triples that the law makes of what came in, walked. -/
import Derived.Test.YtkfgmjcdaggjcaaKpImpl
namespace Go.Proofs.Ytkfgmjcdaggjcaa.Kp
open Go Go.RowKit

/-- A slice of arrays of three numbers of 16 bits that came in. -/
def Came (w : World) (A : Option Addr) (n : Nat) : Prop :=
  0 < n → ∃ b off, A = some ⟨b, off, none⟩ ∧ ∀ j, j < n → ∃ x y z : Int, (-32768 ≤ x ∧ x ≤ 32767) ∧ (-32768 ≤ y ∧ y ≤ 32767) ∧ (-32768 ≤ z ∧ z ≤ 32767) ∧ w.cell? ⟨b, off + j * 3, none⟩ = some (.int .i16 x) ∧ w.cell? ⟨b, off + j * 3 + 1, none⟩ = some (.int .i16 y) ∧ w.cell? ⟨b, off + j * 3 + 2, none⟩ = some (.int .i16 z)

theorem info27 : (Try.prog.info? 27).map (fun i => (i.zero, i.size, i.bytes)) = some (some (.agg #[.int .i64 0, .int .i64 0, .int .i64 0]), 3, 24) := by kernel_rfl

def Law (w : World) (e : Ending) (w' : World) : Prop := e = .returned (.bool true) ∧ Below w.heap.size w w'

theorem long_any (n cap a b : Nat) (A : Option Addr) (w : World) (hn : 2147483647 < n) (hm : n ≤ 9223372036854775807) :
    Calls Try.prog 3 #[.slice A n cap, .int .u8 a, .int .u8 b] w (Law w) := by
  have d0 : decide ((2147483647 : Int) < n) = true := decide_eq_true (by omega)
  go_enter Try.func3, Try.ntmps3
  go_wp2
  go_ret
  exact ⟨rfl, Below.refl _ _⟩

/-- The answer is one, where the keys rise strictly. -/
theorem answer_one {l : List Tri} {a b : Nat} {u v : Int} (hs : Str l) (hok : ∀ x ∈ l, Tri.Ok x) (hu : Answer l a b u) (hv : Answer l a b v) : u = v := by
  have key : ∀ x ∈ l, ∀ y ∈ l, x.a = a → x.b = b → y.a = a → y.b = b → x.v = y.v := by
    intro x hx y hy xa xb ya yb
    obtain ⟨i, hi⟩ := List.getElem?_of_mem hx
    obtain ⟨j, hj⟩ := List.getElem?_of_mem hy
    have hk : pk x = pk y := by unfold pk; rw [xa, xb, ya, yb]
    by_cases h : i = j
    · subst h
      rw [hi] at hj
      rw [Option.some.inj hj]
    · by_cases h2 : i < j
      · have := str_pk hs hok hi hj h2; omega
      · have := str_pk hs hok hj hi (by omega); omega
  rcases hu with ⟨t, ht, ta, tb, rfl⟩ | ⟨rfl, hno⟩ <;> rcases hv with ⟨s, hs', sa, sb, rfl⟩ | ⟨rfl, hno2⟩
  · exact key t ht s hs' ta tb sa sb
  · exact absurd ⟨ta, tb⟩ (hno2 t ht)
  · exact absurd ⟨sa, sb⟩ (hno s hs')
  · rfl
end Go.Proofs.Ytkfgmjcdaggjcaa.Kp
