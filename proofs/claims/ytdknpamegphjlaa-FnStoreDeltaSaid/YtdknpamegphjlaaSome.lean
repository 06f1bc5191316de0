/- A store of variations made of what came in, walked. -/
import Derived.Test.YtdknpamegphjlaaWay
namespace Go.Proofs.Ytdknpamegphjlaa.Sd
open Go Go.RowKit

theorem info47 : (Try.prog.info? 47).map (fun i => (i.zero, i.size, i.bytes)) = some (some (.slice none 0 0), 1, 24) := by kernel_rfl
theorem info48 : (Try.prog.info? 48).map (fun i => (i.zero, i.size, i.bytes)) = some (some (.agg #[.int .i64 0, .int .i64 0, .int .i64 0]), 3, 24) := by kernel_rfl
theorem info32 : (Try.prog.info? 32).map (fun i => (i.zero, i.size, i.bytes)) = some (some (.slice none 0 0), 1, 24) := by kernel_rfl
theorem info3 : (Try.prog.info? 3).map (fun i => (i.zero, i.size, i.bytes)) = some (some (.int .i64 0), 1, 8) := by kernel_rfl
theorem info37 : (Try.prog.info? 37).map (fun i => (i.zero, i.size, i.bytes)) = some (some (.agg #[.slice none 0 0, .slice none 0 0]), 2, 48) := by kernel_rfl

/-- What a store is made of is fit. -/
structure Fine (all : List (List Ax)) (l : List Dl) (at_ : List Int) (ax m : Nat) : Prop where
  axl : 0 < ax ∧ ax ≤ 3
  coord : at_.length = ax ∧ ∀ x ∈ at_, -16384 ≤ x ∧ x ≤ 16384
  regs : 0 < all.length ∧ all.length ≤ 6 ∧ ∀ r ∈ all, r.length = ax ∧ ∀ x ∈ r, Ax.Ok x
  num : 0 < m ∧ m ≤ 5
  lists : 0 < l.length ∧ l.length ≤ 4 ∧ ∀ d ∈ l, d.regs.length ≤ 5 ∧ (∀ k ∈ d.regs, 0 ≤ k ∧ k < all.length) ∧ d.items.length = m ∧ ∀ row ∈ d.items, row.length = d.regs.length ∧ ∀ x ∈ row, -32768 ≤ x ∧ x ≤ 32767
def None' : Nat → Prop := fun _ => False
def Stored (w : World) (e : Ending) (w' : World) : Prop :=
  ∃ all l at_ va vl vt, e = .returned (.tuple #[va, vl, vt]) ∧ RegsR None' w' va all ∧ DlsR None' w' vl l ∧ IntsR None' w' vt at_ ∧ (all = [] ∨ ∃ ax m, Fine all l at_ ax m) ∧ Below w.heap.size w w'

theorem rows_nil {α : Type} (R : (Nat → Prop) → World → Value → α → Prop) (S : Nat → Prop) (w : World) : Rows' R S w (.slice none 0 0) [] := ⟨[], rfl, row_nil S w, fun i u x h => by simp at h⟩
theorem dls_nil (S : Nat → Prop) (w : World) : DlsR S w (.slice none 0 0) [] := ⟨[], row_nil S w, fun i x h => by simp at h⟩
theorem grows_nil {α : Type} (R : (Nat → Prop) → World → Value → α → Prop) (E : Nat → Prop) (base : Nat) (t : TypeId) (w : World) : Grows R E base t w (.slice none 0 0) [] [] := ⟨World.ownsRow_nil _ _ _ _, fun i u x h => by simp at h⟩

set_option maxRecDepth 1000000 in
set_option maxHeartbeats 4000000 in
theorem some_none (n0 n1 n2 n3 c0 c1 c2 c3 : Nat) (A0 A1 A2 A3 : Option Addr) (w : World) (h0 : n0 ≤ 9223372036854775807) (h1 : n1 ≤ 9223372036854775807) (h2 : n2 ≤ 9223372036854775807) (h3 : n3 ≤ 9223372036854775807) (h : n0 = 0 ∨ n3 = 0 ∨ n1 = 0 ∨ n2 = 0) :
    Calls Try.prog 7 #[.slice A0 n0 c0, .slice A1 n1 c1, .slice A2 n2 c2, .slice A3 n3 c3] w (Stored w) := by
  have hS : Stored w (.returned (.tuple #[.slice none 0 0, .slice none 0 0, .slice none 0 0])) w := ⟨[], [], [], _, _, _, rfl, rows_nil _ _ _, dls_nil _ _, row_nil _ _, .inl rfl, Below.refl _ _⟩
  have HS := Lib.hid hS
  clear hS
  obtain ⟨ax, hax⟩ : ∃ ax, ax = min n3 3 := ⟨_, rfl⟩
  have k0 : (if (3 : Int) < (n3 : Int) then (3 : Int) else (n3 : Int)) = (ax : Int) := by split <;> omega
  have hax3 : ax ≤ 3 := by omega
  have HAX := Lib.hid hax
  rcases (show (n0 = 0) ∨ (n0 ≠ 0 ∧ ax = 0) ∨ (n0 ≠ 0 ∧ ax ≠ 0 ∧ n1 = 0) ∨ (n0 ≠ 0 ∧ ax ≠ 0 ∧ n1 ≠ 0 ∧ n2 = 0) by omega) with e | ⟨e, e1⟩ | ⟨e, e1, e2⟩ | ⟨e, e1, e2, e3⟩
  all_goals clear hax h
  · have d0 : ((n0 : Int) == 0) = true := by rw [beq_iff_eq]; omega
    clear e
    go_enter Try.func7, Try.ntmps7
    go_wp2_with fail
    go_ret3
    exact HS.out
  · have d0 : ((n0 : Int) == 0) = false := by rw [beq_eq_false_iff_ne]; omega
    have d1 : ((ax : Int) == 0) = true := by rw [beq_iff_eq]; omega
    clear e e1
    go_enter Try.func7, Try.ntmps7
    go_wp2_with fail
    go_ret3
    exact HS.out
  · have d0 : ((n0 : Int) == 0) = false := by rw [beq_eq_false_iff_ne]; omega
    have d1 : ((ax : Int) == 0) = false := by rw [beq_eq_false_iff_ne]; omega
    have d2 : ((n1 : Int) == 0) = true := by rw [beq_iff_eq]; omega
    clear e e1 e2
    go_enter Try.func7, Try.ntmps7
    go_wp2_with fail
    go_ret3
    exact HS.out
  · have d0 : ((n0 : Int) == 0) = false := by rw [beq_eq_false_iff_ne]; omega
    have d1 : ((ax : Int) == 0) = false := by rw [beq_eq_false_iff_ne]; omega
    have d2 : ((n1 : Int) == 0) = false := by rw [beq_eq_false_iff_ne]; omega
    have d3 : ((n2 : Int) == 0) = true := by rw [beq_iff_eq]; omega
    clear e e1 e2 e3
    go_enter Try.func7, Try.ntmps7
    go_wp2_with fail
    go_ret3
    exact HS.out

theorem own_slice {w : World} {base n : Nat} {e : TypeId} {size : Nat} {v : Value} {xs : List Value} (h : w.ownsRow base e size v n xs) : ∃ A cap, v = .slice A n cap := by
  rcases h.2 with ⟨rfl, h0⟩ | ⟨g, cap, cur, rfl, _⟩
  · exact ⟨none, 0, by rw [h0]⟩
  · exact ⟨_, _, rfl⟩
/-- A growing region, one axis longer. -/
theorem ax_next {wo wr w1 : World} {k g cap : Nat} {v : Value} {L : List Ax} {x : Ax} {t : TypeId} (ho : wr.ownsRow wo.heap.size 48 3 v k (axCells L)) (hb : Below wo.heap.size wo wr)
    (hg : (wr.alloc (.cells #[.int .i64 x.a, .int .i64 x.b, .int .i64 x.c] t)).grownBy w1 v.ownBlock) (h1 : w1.ownsRow wo.heap.size 48 3 (.slice (some ⟨g, 0, none⟩) (k + 1) cap) (k + 1) (axCells L ++ [.int .i64 x.a, .int .i64 x.b, .int .i64 x.c])) :
    w1.ownsRow wo.heap.size 48 3 (.slice (some ⟨g, 0, none⟩) (k + 1) cap) (k + 1) (axCells (L ++ [x])) ∧ Below wo.heap.size wo w1 := by
  have hs := hb.size
  refine ⟨by rw [axCells_append]; exact h1, ?_⟩
  exact (hb.alloc hs _).grown hg (by simp; omega) (fun q hq => (ho.lt q hq).1)
theorem all_snoc {α : Type} {P : α → Prop} {l : List α} {x : α} (h : ∀ y ∈ l, P y) (hx : P x) : ∀ y ∈ l ++ [x], P y := by
  intro y hy
  rcases List.mem_append.1 hy with h' | h'
  · exact h y h'
  · rw [List.mem_singleton.1 h']; exact hx

/-- The regions so far. -/
structure Alls (w W : World) (v : Value) (all : List (List Ax)) (vs : List Value) (i ax : Nat) : Prop where
  grows : Grows AxesR None' w.heap.size 47 W v all vs
  below : Below w.heap.size w W
  len : all.length = i
  fit : ∀ r ∈ all, r.length = ax ∧ ∀ x ∈ r, Ax.Ok x

theorem Alls.next {w wo wr w1 : World} {v v' u : Value} {all : List (List Ax)} {vs : List Value} {i ax g cap : Nat} {L : List Ax} (h : Alls w wo v all vs i ax) (ho : wr.ownsRow wo.heap.size 48 3 u ax (axCells L)) (hb : Below wo.heap.size wo wr) (hl : L.length = ax) (hok : ∀ x ∈ L, Ax.Ok x)
    (hv : v' = .slice (some ⟨g, 0, none⟩) (i + 1) cap) (hg : (wr.alloc (.cells #[u] 47)).grownBy w1 v.ownBlock) (h1 : w1.ownsRow w.heap.size 47 1 v' (i + 1) (vs ++ [u])) (hat : v.ownBlock = some g ∨ g = wr.heap.size + 1) : Alls w w1 v' (all ++ [L]) (vs ++ [u]) (i + 1) ax := by
  have hs := hb.size
  have hs2 := h.below.size
  have hb2 : Below wo.heap.size wo (wr.alloc (.cells #[u] 47)) := hb.alloc hs _
  have hgr := h.grows.kept good_axes hb2
  have hu : AxesR (fun q => None' q ∨ some q = v.ownBlock) (wr.alloc (.cells #[u] 47)) u L := by
    have h2 : Row (fun q => None' q ∨ some q = v.ownBlock) wr u L.length (axCells L) := by
      rw [hl]
      exact row_of_own ho (fun q hq e => by
        rcases e with e | e
        · exact e
        · have a := (ho.lt q hq).1
          have b := (h.grows.own.lt q e.symm).2
          omega)
    exact h2.below ((Below.refl _ _).alloc (Nat.le_refl _) _)
  refine ⟨hgr.snoc good_axes hg (by rw [h.len]; exact h1) ?_ hu, ?_, by rw [List.length_append, h.len]; rfl, all_snoc h.fit ⟨hl, hok⟩⟩
  · rcases hat with e | e
    · left; rw [hv, e]; rfl
    · right; exact ⟨g, by rw [hv]; rfl, by rw [World.size_alloc]; omega⟩
  · exact ((h.below.trans (hb.mono hs2)).alloc (by omega) _).grown hg (by rw [World.size_alloc]; omega) (fun q hq => (h.grows.own.lt q hq).1)

end Go.Proofs.Ytdknpamegphjlaa.Sd
