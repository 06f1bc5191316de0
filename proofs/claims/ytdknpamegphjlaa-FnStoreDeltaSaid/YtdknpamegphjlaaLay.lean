/- How a store of variations is laid out, and a table's bytes, one more. -/
import Derived.Test.YtdknpamegphjlaaSome3
namespace Go.Proofs.Ytdknpamegphjlaa.Sd
open Go Go.RowKit

def axNums (r : List Ax) : List Int := r.flatMap fun x => [x.a, x.b, x.c]
def regNums (all : List (List Ax)) : List Int := all.flatMap axNums
theorem axNums_snoc (r : List Ax) (x : Ax) : axNums (r ++ [x]) = axNums r ++ [x.a, x.b, x.c] := by simp [axNums]
theorem regNums_snoc (all : List (List Ax)) (r : List Ax) : regNums (all ++ [r]) = regNums all ++ axNums r := by simp [regNums]
def byteOf (x : Int) : Nat := (x % 256).toNat
/-- A row: words, then bytes. -/
def rowBytes (W : Nat) (row : List Int) : List Nat := shorts (row.take W) ++ (row.drop W).map byteOf
def dataHead (d : Dl) (W : Nat) : List Nat := shorts ([(d.items.length : Int), (W : Int), (d.regs.length : Int)] ++ d.regs)
def dataBytes (p : Dl × Nat) : List Nat := dataHead p.1 p.2 ++ p.1.items.flatMap (rowBytes p.2)
def datas (ps : List (Dl × Nat)) : List Nat := ps.flatMap dataBytes
theorem datas_snoc (ps : List (Dl × Nat)) (p : Dl × Nat) : datas (ps ++ [p]) = datas ps ++ dataBytes p := by simp [datas]
def offs (at_ : Nat) : List (Dl × Nat) → List Int
  | [] => []
  | p :: ps => (at_ : Int) :: offs (at_ + (dataBytes p).length) ps
theorem offs_snoc : ∀ (ps : List (Dl × Nat)) (at_ : Nat) (p : Dl × Nat), offs at_ (ps ++ [p]) = offs at_ ps ++ [((at_ + (datas ps).length : Nat) : Int)]
  | [], at_, p => by simp [offs, datas]
  | q :: ps, at_, p => by
    have := offs_snoc ps (at_ + (dataBytes q).length) p
    simp only [List.cons_append, offs, this]
    simp [datas, Nat.add_assoc]
def longs (l : List Int) : List Int := l.flatMap fun x => [x / 65536, x]
def headBytes (n at_ : Nat) (ps : List (Dl × Nat)) : List Nat := shorts ([1, (8 + 4 * (n : Int)) / 65536, 8 + 4 * (n : Int), (n : Int)] ++ longs (offs at_ ps))
theorem headBytes_snoc (n at_ : Nat) (ps : List (Dl × Nat)) (p : Dl × Nat) : headBytes n at_ (ps ++ [p]) = headBytes n at_ ps ++ shorts [((at_ + (datas ps).length : Nat) : Int) / 65536, ((at_ + (datas ps).length : Nat) : Int)] := by
  unfold headBytes
  rw [offs_snoc, ← shorts_append]
  simp [longs]
def regBytes (ax : Nat) (all : List (List Ax)) : List Nat := shorts ([(ax : Int), (all.length : Int)] ++ regNums all)
/-- The words fit: what lies behind is of one byte. -/
def Fits (d : Dl) (W : Nat) : Prop := W ≤ d.regs.length ∧ ∀ row ∈ d.items, ∀ (k : Nat) (x : Int), W ≤ k → row[k]? = some x → Tiny x
def storeAt (ax : Nat) (all : List (List Ax)) (n : Nat) : Nat := 8 + 4 * n + (regBytes ax all).length
def storeBytes (ax : Nat) (all : List (List Ax)) (ps : List (Dl × Nat)) : List Nat := headBytes ps.length (storeAt ax all ps.length) ps ++ regBytes ax all ++ datas ps

theorem two_len (x : Int) : (two x).length = 2 := rfl
theorem rowBytes_len (W : Nat) (row : List Int) : (rowBytes W row).length ≤ 2 * row.length := by
  unfold rowBytes
  rw [List.length_append, shorts_len, List.length_take, List.length_map, List.length_drop]
  omega
theorem flat_le {α : Type} (f : α → List Nat) (c : Nat) : ∀ (l : List α), (∀ x ∈ l, (f x).length ≤ c) → (l.flatMap f).length ≤ l.length * c
  | [], _ => by simp
  | x :: l, h => by
    have h1 := h x (by simp)
    have h2 := flat_le f c l (fun y hy => h y (by simp [hy]))
    rw [List.flatMap_cons, List.length_append, List.length_cons, Nat.succ_mul]
    omega
theorem dataHead_len (d : Dl) (W : Nat) : (dataHead d W).length = 6 + 2 * d.regs.length := by
  unfold dataHead; rw [shorts_len, List.length_append]; simp; omega
theorem dataBytes_len (p : Dl × Nat) (m : Nat) (hm : p.1.items.length = m) (hm5 : m ≤ 5) (hr : p.1.regs.length ≤ 5) (hrow : ∀ row ∈ p.1.items, row.length = p.1.regs.length) : 6 ≤ (dataBytes p).length ∧ (dataBytes p).length ≤ 66 := by
  unfold dataBytes
  rw [List.length_append, dataHead_len]
  have := flat_le (rowBytes p.2) 10 p.1.items (fun row h => by have := rowBytes_len p.2 row; have := hrow row h; omega)
  omega

/-- A table with one byte more. -/
theorem tab_push {T base : Nat} {x : Int} {bs : List Nat} {v v2 : Value} {w w4 : World} (ht : Tab T base bs w v) (hx : 0 ≤ x)
    (ho : w4.ownsRow base 5 1 v2 (bs.length + 1) (byteCells bs ++ [.int .u8 x])) (hg : (w.alloc (.cells #[.int .u8 x] 5)).grownBy w4 v.ownBlock) (hat : v2.ownBlock = v.ownBlock ∨ v2.ownBlock = some (w.heap.size + 1)) :
    (w4.cell? ⟨T, 0, none⟩ = some v ∧ w4.frozen? ⟨T, 0, none⟩ = false) ∧ Wrote T base (bs ++ [x.toNat]) v w v2 (w4.setCell ⟨T, 0, none⟩ v2) := by
  have hlow := ht.low
  have hsz := ht.size
  have hne : some T ≠ v.ownBlock := fun e => by have := (ht.own.lt T e.symm).1; omega
  have hb : w4.heap[T]? = w.heap[T]? := by
    rw [hg.block T (by rw [World.size_alloc]; omega) hne, Below.heap_alloc _ _ _ (by omega)]
  have hc : w4.cell? ⟨T, 0, none⟩ = some v := (World.cell?_of_block hb).trans ht.cell
  have hf : w4.frozen? ⟨T, 0, none⟩ = false := (World.frozen?_of_block hb).trans ht.free
  have hs4 := hg.size
  rw [World.size_alloc] at hs4
  have hne2 : ∀ q, v2.ownBlock = some q → q ≠ T := by
    intro q hq e
    subst e
    have := (ho.lt q hq).1
    omega
  refine ⟨⟨hc, hf⟩, ⟨World.cell?_setCell_same _ _ _ hc, by rw [World.frozen?_setCell]; exact hf, ?_, hlow, by rw [World.size_setCell]; omega⟩, ?_, ?_⟩
  · have e : (bs ++ [x.toNat]).length = bs.length + 1 := by simp
    have e2 : byteCells (bs ++ [x.toNat]) = byteCells bs ++ [.int .u8 x] := by
      rw [byteCells_append]
      simp [byteCells, Int.toNat_of_nonneg hx]
    rw [e, e2]
    exact own_block ho (fun q hq => Below.heap_setCell _ _ _ _ (hne2 q hq))
  · rcases hat with h1 | h1
    · exact Or.inl h1
    · rw [h1]; exact Or.inr ⟨_, rfl, by omega⟩
  · refine ⟨hg.os, hg.tape, hg.output, ?_, ?_⟩
    · rw [World.size_setCell]; omega
    · intro q hq hn
      have h1 : q ≠ T := fun e => hn (Or.inl e)
      rw [Below.heap_setCell _ _ _ _ h1]
      have h2 : some q ≠ v.ownBlock := fun e => hn (Or.inr e)
      rw [hg.block q (by rw [World.size_alloc]; omega) h2, Below.heap_alloc _ _ _ (by omega)]

theorem tab_start (W : World) : Tab W.heap.size (W.heap.size + 1) [] (W.alloc (.cells #[.slice none 0 0, .slice none 0 0] 95)) (.slice none 0 0) := by
  have h := heap_alloc_new W (.cells #[.slice none 0 0, .slice none 0 0] 95)
  exact ⟨by rw [cell_in h]; rfl, frozen_in h, World.ownsRow_nil _ _ _ _, Nat.lt_succ_self _, by simp⟩

/-- What was written is all in new memory. -/
theorem Wrote.below {T base : Nat} {bs : List Nat} {v v' : Value} {ws w w' : World} (h : Wrote T base bs v w v' w') (hb : Below T ws w) (hT : T ≤ w.heap.size) (hv : ∀ q, v.ownBlock = some q → T ≤ q) : Below T ws w' :=
  h.kept.below hb hT (fun q hq hS => by
    rcases hS with e | e
    · omega
    · have := hv q e.symm; omega)
end Go.Proofs.Ytdknpamegphjlaa.Sd
