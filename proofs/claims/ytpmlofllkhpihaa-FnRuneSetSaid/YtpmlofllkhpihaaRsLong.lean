/- The law FnRuneSet at slices longer than its measure. -/
import Derived.Test.YtpmlofllkhpihaaRsWalk
namespace Go.Proofs.Ytpmlofllkhpihaa.Rs
open Go Go.RowKit

theorem long_first (n m : Nat) (A A2 : Option Addr) (cap cap2 : Nat) (w : World) (hn : 2147483647 < n) (hmax : n ≤ 9223372036854775807) (_hmax2 : m ≤ 9223372036854775807) :
    Calls Try.prog 4 #[.slice A n cap, .slice A2 m cap2] w fun e w' => e = .returned (.bool true) ∧ Below w.heap.size w w' := by
  have ht : (2147483647 : Int) < n := by omega
  go_enter Try.func4, Try.ntmps4
  go_wp2
  go_ret
  exact ⟨rfl, Below.refl _ _⟩
theorem long_second (n m : Nat) (A A2 : Option Addr) (cap cap2 : Nat) (w : World) (hn : n ≤ 2147483647) (hm : 2147483647 < m) (_hmax2 : m ≤ 9223372036854775807) :
    Calls Try.prog 4 #[.slice A n cap, .slice A2 m cap2] w fun e w' => e = .returned (.bool true) ∧ Below w.heap.size w w' := by
  have ht : ¬ (2147483647 : Int) < n := by omega
  have ht2 : (2147483647 : Int) < m := by omega
  go_enter Try.func4, Try.ntmps4
  go_wp2
  go_ret
  exact ⟨rfl, Below.refl _ _⟩

/-- The slice's numbers as natural ones. -/
def natsOf (z : List Int) (n : Nat) : List Nat := (z.take n).map Int.toNat
theorem natsOf_len {z : List Int} {n : Nat} (h : n ≤ z.length) : (natsOf z n).length = n := by simp [natsOf]; omega
theorem natsOf_lt {z : List Int} {n : Nat} (h : ∀ x ∈ z, 0 ≤ x ∧ x ≤ 4294967295) : ∀ x ∈ natsOf z n, x < 4294967296 := by
  intro x hx
  unfold natsOf at hx
  obtain ⟨y, hy, rfl⟩ := List.mem_map.mp hx
  have := h y (List.mem_of_mem_take hy)
  omega
theorem natsOf_get {z : List Int} {n j x : Nat} (h : ∀ x ∈ z, 0 ≤ x ∧ x ≤ 4294967295) (hj : (natsOf z n)[j]? = some x) : j < n ∧ j < z.length ∧ z.getD j 0 = (x : Nat) := by
  unfold natsOf at hj
  rw [List.getElem?_map, List.getElem?_take] at hj
  by_cases hjn : j < n
  · rw [if_pos hjn] at hj
    cases hz : z[j]? with
    | none => rw [hz] at hj; simp at hj
    | some y =>
      rw [hz] at hj
      have hy := h y (List.mem_of_getElem? hz)
      simp at hj
      have hjz := (List.getElem?_eq_some_iff.1 hz).1
      refine ⟨hjn, hjz, ?_⟩
      rw [List.getD_eq_getElem?_getD, hz]
      show y = (x : Int)
      omega
  · rw [if_neg hjn] at hj; simp at hj
end Go.Proofs.Ytpmlofllkhpihaa.Rs
