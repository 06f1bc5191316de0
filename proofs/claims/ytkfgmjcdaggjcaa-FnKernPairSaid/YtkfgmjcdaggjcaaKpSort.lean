/- Rows merged in place: the plain law of a merge by rotation. No program in sight. -/
import Derived.Lib.Hide
namespace Go.Proofs.Ytkfgmjcdaggjcaa.Kp
open Go

section
variable {α : Type} (key : α → Nat)

/-- The keys rise. -/
def Asc (l : List α) : Prop := l.Pairwise fun x y => key x ≤ key y

theorem asc_at {l : List α} (h : Asc key l) {i j : Nat} {x y : α} (hx : l[i]? = some x) (hy : l[j]? = some y) (hij : i ≤ j) : key x ≤ key y := by
  by_cases e : i = j
  · subst e
    rw [hx] at hy
    obtain rfl := Option.some.inj hy
    exact Nat.le_refl _
  · obtain ⟨h1, rfl⟩ := List.getElem?_eq_some_iff.1 hx
    obtain ⟨h2, rfl⟩ := List.getElem?_eq_some_iff.1 hy
    exact List.pairwise_iff_getElem.1 h i j h1 h2 (by omega)

theorem asc_split {X Y : List α} {i j : Nat} (hX : Asc key X) (hY : Asc key Y)
    (h1 : i = 0 ∨ Y.length ≤ j ∨ ∃ x y, X[i - 1]? = some x ∧ Y[j]? = some y ∧ key x ≤ key y)
    (h2 : X.length ≤ i ∨ j = 0 ∨ ∃ x y, X[i]? = some x ∧ Y[j - 1]? = some y ∧ key y ≤ key x) :
    (∀ x ∈ X.take i, ∀ y ∈ Y.drop j, key x ≤ key y) ∧ (∀ x ∈ X.drop i, ∀ y ∈ Y.take j, key y ≤ key x) := by
  constructor
  · intro x hx y hy
    obtain ⟨p, hp⟩ := List.getElem?_of_mem hx
    obtain ⟨q, hq⟩ := List.getElem?_of_mem hy
    rw [List.getElem?_take] at hp
    rw [List.getElem?_drop] at hq
    split at hp
    · rename_i hpi
      have hql := (List.getElem?_eq_some_iff.1 hq).1
      rcases h1 with h | h | ⟨x', y', hx', hy', hxy⟩
      · omega
      · omega
      · have a1 := asc_at key hX hp hx' (by omega)
        have a2 := asc_at key hY hy' hq (by omega)
        omega
    · simp at hp
  · intro x hx y hy
    obtain ⟨p, hp⟩ := List.getElem?_of_mem hx
    obtain ⟨q, hq⟩ := List.getElem?_of_mem hy
    rw [List.getElem?_drop] at hp
    rw [List.getElem?_take] at hq
    split at hq
    · rename_i hqj
      have hpl := (List.getElem?_eq_some_iff.1 hp).1
      rcases h2 with h | h | ⟨x', y', hx', hy', hxy⟩
      · omega
      · omega
      · have a1 := asc_at key hX hx' hp (by omega)
        have a2 := asc_at key hY hq hy' (by omega)
        omega
    · simp at hq

/-- Two halves, each of the lesser and of the greater ones, come together. -/
theorem asc_join {X1 X2 Y1 Y2 Z1 Z2 : List α} (h1 : Z1.Perm (X1 ++ Y1)) (h2 : Z2.Perm (X2 ++ Y2)) (a1 : Asc key Z1) (a2 : Asc key Z2) (hX : Asc key (X1 ++ X2)) (hY : Asc key (Y1 ++ Y2))
    (hxy : ∀ x ∈ X1, ∀ y ∈ Y2, key x ≤ key y) (hyx : ∀ x ∈ X2, ∀ y ∈ Y1, key y ≤ key x) : Asc key (Z1 ++ Z2) := by
  refine List.pairwise_append.2 ⟨a1, a2, fun x hx y hy => ?_⟩
  have hx' := h1.subset hx
  have hy' := h2.subset hy
  rcases List.mem_append.1 hx' with p | p <;> rcases List.mem_append.1 hy' with q | q
  · exact (List.pairwise_append.1 hX).2.2 x p y q
  · exact hxy x p y q
  · exact hyx y q x p
  · exact (List.pairwise_append.1 hY).2.2 x p y q

theorem perm_join {X1 X2 Y1 Y2 Z1 Z2 : List α} (h1 : Z1.Perm (X1 ++ Y1)) (h2 : Z2.Perm (X2 ++ Y2)) : (Z1 ++ Z2).Perm ((X1 ++ X2) ++ (Y1 ++ Y2)) := by
  refine (h1.append h2).trans ?_
  rw [List.append_assoc, List.append_assoc]
  refine List.Perm.append_left _ ?_
  rw [← List.append_assoc, ← List.append_assoc]
  exact List.Perm.append_right _ List.perm_append_comm

theorem asc_left {A B : List α} (h : Asc key (A ++ B)) : Asc key A := (List.pairwise_append.1 h).1
theorem asc_right {A B : List α} (h : Asc key (A ++ B)) : Asc key B := (List.pairwise_append.1 h).2.1
end
end Go.Proofs.Ytkfgmjcdaggjcaa.Kp
