/- Sets of characters as pages: the cells in which they lie, and the plain law: what is in a set, how many. No program in sight. -/
import GoSem.Core.Value
namespace Go.Proofs.Ytpmlofllkhpihaa.Rs
open Go

/-- A page: its number, and eight words of 32 bits. -/
structure Page where
  ref : Nat
  bits : List Nat

def Page.cells (p : Page) : List Value := .int .u16 p.ref :: p.bits.map fun b => Value.int .u32 (b : Nat)
def cellsOf (ps : List Page) : List Value := ps.flatMap Page.cells

/-- Each page has eight words of 32 bits, and a number of 16. -/
def Good (ps : List Page) : Prop := ∀ p ∈ ps, p.bits.length = 8 ∧ (∀ b ∈ p.bits, b < 4294967296) ∧ p.ref < 65536
/-- The pages' numbers rise. -/
def Rising (ps : List Page) : Prop := ps.Pairwise fun a b => a.ref < b.ref

theorem cells_len {p : Page} (h : p.bits.length = 8) : p.cells.length = 9 := by simp [Page.cells, h]

theorem cellsOf_len : ∀ {ps : List Page}, Good ps → (cellsOf ps).length = ps.length * 9
  | [], _ => rfl
  | p :: ps, h => by
    have h1 := cellsOf_len (ps := ps) (fun q hq => h q (by simp [hq]))
    have h2 := cells_len (h p (by simp)).1
    unfold cellsOf at *
    rw [List.flatMap_cons, List.length_append, h1, h2, List.length_cons]
    omega

theorem cellsOf_get : ∀ {ps : List Page} (_ : Good ps) (i j : Nat) (p : Page), ps[i]? = some p → j < 9 → (cellsOf ps)[i * 9 + j]? = p.cells[j]?
  | [], _, _, _, _, h, _ => by simp at h
  | q :: ps, hg, 0, j, p, h, hj => by
    simp at h
    subst h
    unfold cellsOf
    rw [List.flatMap_cons, List.getElem?_append_left (by rw [cells_len (hg q (by simp)).1]; omega)]
    simp
  | q :: ps, hg, i + 1, j, p, h, hj => by
    have h1 := cellsOf_get (ps := ps) (fun q hq => hg q (by simp [hq])) i j p (by simpa using h) hj
    have h2 := cells_len (hg q (by simp)).1
    unfold cellsOf at *
    rw [List.flatMap_cons, List.getElem?_append_right (by omega), h2, ← h1]
    congr 1
    omega

theorem cellsOf_append (a b : List Page) : cellsOf (a ++ b) = cellsOf a ++ cellsOf b := by simp [cellsOf]
theorem cellsOf_take {ps : List Page} (h : Good ps) (i : Nat) (hi : i ≤ ps.length) : (cellsOf ps).take (i * 9) = cellsOf (ps.take i) := by
  have e : cellsOf ps = cellsOf (ps.take i) ++ cellsOf (ps.drop i) := by rw [← cellsOf_append, List.take_append_drop]
  have hl : (cellsOf (ps.take i)).length = i * 9 := by
    rw [cellsOf_len (fun q hq => h q (List.mem_of_mem_take hq)), List.length_take, Nat.min_eq_left hi]
  rw [e, List.take_append_of_le_length (by omega), List.take_of_length_le (by omega)]
theorem cellsOf_drop {ps : List Page} (h : Good ps) (i : Nat) (hi : i ≤ ps.length) : (cellsOf ps).drop (i * 9) = cellsOf (ps.drop i) := by
  have e : cellsOf ps = cellsOf (ps.take i) ++ cellsOf (ps.drop i) := by rw [← cellsOf_append, List.take_append_drop]
  have hl : (cellsOf (ps.take i)).length = i * 9 := by
    rw [cellsOf_len (fun q hq => h q (List.mem_of_mem_take hq)), List.length_take, Nat.min_eq_left hi]
  rw [e, List.drop_append, List.drop_eq_nil_of_le (by omega), hl, Nat.sub_self]
  simp

/-- Word k of page i is another one. -/
def setw (ps : List Page) (i k b : Nat) : List Page := ps.modify i fun p => { p with bits := p.bits.set k b }

theorem cells_set (p : Page) (k b : Nat) : p.cells.set (1 + k) (.int .u32 (b : Nat)) = Page.cells { p with bits := p.bits.set k b } := by
  rw [Nat.add_comm]
  simp [Page.cells, List.map_set]

theorem cellsOf_setw : ∀ {ps : List Page} (_ : Good ps) (i k b : Nat), i < ps.length → k < 8 → (cellsOf ps).set (i * 9 + 1 + k) (.int .u32 (b : Nat)) = cellsOf (setw ps i k b)
  | [], _, _, _, _, h, _ => by simp at h
  | q :: ps, hg, 0, k, b, _, hk => by
    have h2 := cells_len (hg q (by simp)).1
    unfold cellsOf setw
    rw [List.flatMap_cons, List.set_append_left _ _ (by omega), Nat.zero_mul, Nat.zero_add, cells_set]
    simp
  | q :: ps, hg, i + 1, k, b, h, hk => by
    have h1 := cellsOf_setw (ps := ps) (fun q hq => hg q (by simp [hq])) i k b (by simpa using h) hk
    have h2 := cells_len (hg q (by simp)).1
    unfold cellsOf setw at *
    rw [List.flatMap_cons, List.set_append_right _ _ (by omega), h2]
    have e : (i + 1) * 9 + 1 + k - 9 = i * 9 + 1 + k := by omega
    rw [e, h1]
    simp

/-- How many pages have a smaller number. -/
def lo (ps : List Page) (ref : Nat) : Nat := (ps.takeWhile fun p => p.ref < ref).length
theorem lo_le (ps : List Page) (ref : Nat) : lo ps ref ≤ ps.length := by
  unfold lo
  exact List.Sublist.length_le (List.takeWhile_sublist _)
/-- Is there a page of this number? -/
def hit (ps : List Page) (ref : Nat) : Bool := match ps[lo ps ref]? with | some p => p.ref == ref | none => false

theorem lo_below : ∀ (ps : List Page) (ref i : Nat) (p : Page), i < lo ps ref → ps[i]? = some p → p.ref < ref
  | [], ref, i, p, h, _ => by simp [lo] at h
  | q :: ps, ref, i, p, h, hp => by
    unfold lo at h
    rw [List.takeWhile_cons] at h
    by_cases hq : q.ref < ref
    · cases i with
      | zero => simp at hp; subst hp; exact hq
      | succ i =>
        rw [if_pos (by simpa using hq)] at h
        exact lo_below ps ref i p (by unfold lo; simpa using h) (by simpa using hp)
    · rw [if_neg (by simpa using hq)] at h
      simp at h

theorem lo_above : ∀ (ps : List Page) (ref i : Nat) (p : Page), Rising ps → lo ps ref ≤ i → ps[i]? = some p → ref ≤ p.ref
  | [], ref, i, p, _, _, hp => by simp at hp
  | q :: ps, ref, i, p, hr, h, hp => by
    unfold Rising at hr
    rw [List.pairwise_cons] at hr
    unfold lo at h
    rw [List.takeWhile_cons] at h
    by_cases hq : q.ref < ref
    · rw [if_pos (by simpa using hq)] at h
      cases i with
      | zero => simp at h
      | succ i => exact lo_above ps ref i p hr.2 (by unfold lo; simpa using h) (by simpa using hp)
    · cases i with
      | zero => simp at hp; subst hp; omega
      | succ i =>
        have := hr.1 p (List.mem_of_getElem? (by simpa using hp))
        omega

/-- What a search that ends at place l has found. -/
theorem lo_unique {ps : List Page} {ref l : Nat} (hr : Rising ps) (hl : l ≤ ps.length) (h1 : ∀ i p, i < l → ps[i]? = some p → p.ref < ref) (h2 : ∀ i p, l ≤ i → ps[i]? = some p → ref < p.ref) : l = lo ps ref ∧ hit ps ref = false := by
  have e : l = lo ps ref := by
    rcases Nat.lt_trichotomy l (lo ps ref) with h | h | h
    · have hlt : l < ps.length := Nat.lt_of_lt_of_le h (lo_le ps ref)
      have a := lo_below ps ref l ps[l] h (List.getElem?_eq_getElem hlt)
      have b := h2 l ps[l] (Nat.le_refl _) (List.getElem?_eq_getElem hlt)
      omega
    · exact h
    · have hlt : lo ps ref < ps.length := Nat.lt_of_lt_of_le h hl
      have a := lo_above ps ref _ ps[lo ps ref] hr (Nat.le_refl _) (List.getElem?_eq_getElem hlt)
      have b := h1 _ ps[lo ps ref] h (List.getElem?_eq_getElem hlt)
      omega
  refine ⟨e, ?_⟩
  unfold hit
  cases hp : ps[lo ps ref]? with
  | none => rfl
  | some p =>
    have := h2 _ p (Nat.le_of_eq e) hp
    simp only [beq_eq_false_iff_ne]
    omega
theorem lo_hit {ps : List Page} {ref i : Nat} {p : Page} (hr : Rising ps) (hp : ps[i]? = some p) (he : p.ref = ref) : i = lo ps ref ∧ hit ps ref = true := by
  have e : i = lo ps ref := by
    rcases Nat.lt_trichotomy i (lo ps ref) with h | h | h
    · have := lo_below ps ref i p h hp
      omega
    · exact h
    · have hi : i < ps.length := (List.getElem?_eq_some_iff.1 hp).1
      have hlt : lo ps ref < ps.length := by omega
      have a := lo_above ps ref _ ps[lo ps ref] hr (Nat.le_refl _) (List.getElem?_eq_getElem hlt)
      have b := List.pairwise_iff_getElem.1 hr (lo ps ref) i hlt hi h
      have hp' : ps[i] = p := by rw [List.getElem?_eq_getElem hi] at hp; exact Option.some.inj hp
      rw [hp'] at b
      omega
  refine ⟨e, ?_⟩
  unfold hit
  rw [← e, hp]
  simp [he]
end Go.Proofs.Ytpmlofllkhpihaa.Rs
