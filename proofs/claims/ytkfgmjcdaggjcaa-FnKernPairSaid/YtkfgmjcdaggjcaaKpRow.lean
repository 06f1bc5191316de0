/- Triples of numbers as cells in a row. No program in sight. -/
import Derived.Test.YtkfgmjcdaggjcaaKpSort
import Derived.Laws.AppendOwn
namespace Go.Proofs.Ytkfgmjcdaggjcaa.Kp
open Go

structure Tri where
  a : Nat
  b : Nat
  v : Int
def Tri.key (t : Tri) : Nat := t.a * 100 + t.b
structure Tri.Ok (t : Tri) : Prop where
  a : t.a < 40
  b : t.b < 40
  lo : -32768 ≤ t.v
  hi : t.v ≤ 32767
def Tri.cells (t : Tri) : List Value := [.int .i64 (t.a : Nat), .int .i64 (t.b : Nat), .int .i64 t.v]
def triCells (l : List Tri) : List Value := l.flatMap Tri.cells

theorem triCells_cons (t : Tri) (l : List Tri) : triCells (t :: l) = .int .i64 (t.a : Nat) :: .int .i64 (t.b : Nat) :: .int .i64 t.v :: triCells l := by simp [triCells, Tri.cells]
theorem triCells_append (a b : List Tri) : triCells (a ++ b) = triCells a ++ triCells b := by simp [triCells]
theorem triCells_len (l : List Tri) : (triCells l).length = l.length * 3 := by
  induction l with
  | nil => rfl
  | cons x l ih => rw [triCells_cons]; simp [ih]; omega
theorem triCells_get (l : List Tri) : ∀ (k : Nat) (t : Tri), l[k]? = some t → (triCells l)[k * 3]? = some (.int .i64 (t.a : Nat)) ∧ (triCells l)[k * 3 + 1]? = some (.int .i64 (t.b : Nat)) ∧ (triCells l)[k * 3 + 2]? = some (.int .i64 t.v) := by
  induction l with
  | nil => intro k t h; simp at h
  | cons y l ih =>
    intro k t h
    rw [triCells_cons]
    cases k with
    | zero => simp at h; subst h; exact ⟨rfl, rfl, rfl⟩
    | succ k =>
      have := ih k t (by simpa using h)
      rw [show (k + 1) * 3 = k * 3 + 1 + 1 + 1 by omega]
      simpa using this
theorem triCells_set (l : List Tri) : ∀ (k : Nat) (t : Tri), triCells (l.set k t) = (((triCells l).set (k * 3) (.int .i64 (t.a : Nat))).set (k * 3 + 1) (.int .i64 (t.b : Nat))).set (k * 3 + 2) (.int .i64 t.v) := by
  induction l with
  | nil => intro k t; simp [triCells]
  | cons y l ih =>
    intro k t
    cases k with
    | zero => simp [triCells_cons]
    | succ k =>
      rw [List.set_cons_succ, triCells_cons, triCells_cons, ih k t, show (k + 1) * 3 = k * 3 + 1 + 1 + 1 by omega]
      simp
theorem triCells_one (l : List Tri) : ∀ u ∈ triCells l, u.oneCell' = true := by
  intro u hu
  unfold triCells at hu
  obtain ⟨x, _, hx⟩ := List.mem_flatMap.mp hu
  simp [Tri.cells] at hx
  rcases hx with rfl | rfl | rfl <;> rfl

section
variable {α : Type}
theorem open_first (X R : List α) (x : α) : (X ++ x :: R)[X.length]? = some x := by simp
theorem open_second (X Y R : List α) (x y : α) : (X ++ x :: (Y ++ y :: R))[X.length + 1 + Y.length]? = some y := by
  rw [List.getElem?_append_right (by omega), show X.length + 1 + Y.length - X.length = Y.length + 1 by omega]
  simp
/-- Two elements exchanged. -/
theorem swap_open (X Y R : List α) (x y : α) : ((X ++ x :: (Y ++ y :: R)).set X.length y).set (X.length + 1 + Y.length) x = X ++ y :: (Y ++ x :: R) := by
  rw [List.set_append_right _ _ (by omega), Nat.sub_self, List.set_cons_zero, List.set_append_right _ _ (by omega), show X.length + 1 + Y.length - X.length = Y.length + 1 by omega, List.set_cons_succ, List.set_append_right _ _ (by omega), Nat.sub_self, List.set_cons_zero]
theorem swap_open' (X Y R : List α) (x y : α) : ((X ++ x :: (Y ++ y :: R)).set (X.length + 1 + Y.length) x).set X.length y = X ++ y :: (Y ++ x :: R) := by
  rw [List.set_comm _ _ (by omega)]
  exact swap_open X Y R x y
end
end Go.Proofs.Ytkfgmjcdaggjcaa.Kp
