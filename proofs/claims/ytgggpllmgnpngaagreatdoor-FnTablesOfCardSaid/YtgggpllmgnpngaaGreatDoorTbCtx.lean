/- The region of the map's literal: what each operation takes and gives. -/
import Derived.Test.YtgggpllmgnpngaaGreatDoorTbRuns
import Derived.Test.YtgggpllmgnpngaaGreatDoorTbFileR
import Derived.Test.YtgggpllmgnpngaaGreatDoorTbCmap
import Derived.Test.YtgggpllmgnpngaaGreatDoorTbName
namespace Go.Proofs.YtgggpllmgnpngaaGreatDoor.Tb
open Go Go.RowKit

structure Ctx where
  R : Nat
  F : Nat
  G : Nat
  k : Nat
  cap : Nat
  n3 : Nat
  c3 : Nat
  A3 : Option Addr
  M : Nat → Int
  b7 : Bool
  b16 : Bool
  b17 : Bool
  st : Int
  w0 : World
structure Ctx.Ok (c : Ctx) : Prop where
  file : FileR c.M c.b7 c.b16 c.b17 c.F c.G c.k c.cap c.w0
  base : c.w0.heap.size = c.R
  n3 : c.n3 ≤ 2147483647
  ways : InU8 c.w0 c.A3 c.n3
  st : 0 ≤ c.st ∧ c.st ≤ 3

inductive Kind where
  | non
  | val (v : Value)
  | tab (n : Nat)
  | nums (l : List Int)
  | link
  | row
  | ints (n : Nat)
abbrev pt (b o : Nat) : Value := .pointer (some ⟨b, o, none⟩)
abbrev agg0 : Value := .agg #[.slice none 0 0, .slice none 0 0]
abbrev vi (x : Int) : Value := .int .i64 x
abbrev vnil : Value := .slice none 0 0

def kinds (c : Ctx) : List Kind := [
  .non, .val (pt c.R 0), .val (pt c.R 0), .val (pt c.F 34), .val vnil, .link, .row, .non,
  .val agg0, .tab 0, .nums [1, 0, 1, 0], .tab 8, .tab 12, .tab 16, .val (pt c.F 0), .val (pt c.F 0), .val (pt c.F 0), .val (vi (c.M 0)), .nums [0, c.M 0], .tab 20, .tab 24, .tab 28, .tab 32, .tab 36,
  .val (vi c.st), .nums [0, 0, 0, 0, c.st, 8, 2, 0, 0], .tab 54, .tab 54, .tab 54, .row, .non,
  .val agg0, .tab 0, .val (pt c.F 0), .val (pt c.F 0), .val (pt c.F 1), .val (vi (c.M 1)), .val (pt c.F 0), .val (pt c.F 0), .val (pt c.F 2), .val (vi (c.M 2)), .val (pt c.F 0), .val (pt c.F 0), .val (pt c.F 3), .val (vi (c.M 3)),
  .val (pt c.F 29), .val (vi 1), .nums [1, 0, c.M 1, c.M 2, c.M 3, 1000, 0, 0, 0, 1, 0, 0, 0, 0, 0, 0, 0, 1], .tab 36, .tab 36, .tab 36, .row, .non,
  .val (pt c.F 28), .val (.slice (some ⟨c.G, 0, none⟩) c.k c.cap), .val (pt c.F 29), .val (vi 1), .row, .non,
  .val agg0, .tab 0, .tab 4, .val (vi c.k), .nums [c.k], .tab 6, .tab 6, .tab 6, .row, .non,
  .val (pt c.F 26), .val vnil, .val (.slice c.A3 c.n3 c.c3), .row, .non,
  .val (pt c.R 0), .val (pt c.F 0), .val (pt c.F 27), .val vnil, .row, .non, .non, .non]
def tmpL : List Nat := [39, 40, 41, 42, 43, 44, 45, 0, 46, 47, 48, 49, 50, 51, 52, 53, 54, 55, 56, 57, 58, 59, 60, 61, 62, 63, 64, 65, 66, 67, 0, 68, 69, 70, 71, 72, 73, 74, 75, 76, 77, 78, 79, 80, 81, 82, 83, 84, 85, 86, 87, 88, 0, 89, 90, 91, 92, 93, 0, 94, 95, 96, 97, 98, 99, 100, 101, 102, 0, 103, 104, 105, 106, 0, 107, 108, 109, 110, 111, 0, 112, 10]
def takesL : List (List Nat) := [[], [], [], [], [3], [2, 4], [1, 5], [6], [], [8], [], [9, 10], [11], [12], [], [14], [15], [16], [17], [13, 18], [19], [20], [21], [22], [], [24], [23, 25], [26], [27], [28], [29],
  [], [31], [], [33], [34], [35], [], [37], [38], [39], [], [41], [42], [43], [], [45], [36, 40, 44, 46], [32, 47], [48], [49], [50], [51], [], [53], [], [55], [54, 56], [57],
  [], [59], [60], [], [62], [61, 63], [64], [65], [66], [67], [], [69], [], [70, 71], [72], [], [], [], [76], [74, 75, 77], [78], [], []]
def insOf (j : Nat) : Nat := [0, 7, 30, 52, 58, 68, 73, 79].getD j 0
/-- The operations that touch what is shared. -/
def shared : List Nat := [0, 5, 7, 30, 52, 58, 68, 73, 79, 80, 81]

abbrev tmpAt (i : Nat) : Nat := tmpL.getD i 0
noncomputable abbrev opAt (i : Nat) : Oper := ops11.getD i default
theorem dst_is : ∀ i, i < 82 → (opAt i).dst = (if tmpAt i = 0 then none else some (tmpAt i)) ∧ (opAt i).guard = none := by
  have h : (List.range 82).all (fun i => (opAt i).dst == (if tmpAt i = 0 then none else some (tmpAt i)) && (opAt i).guard.isNone) = true := by kernel_rfl
  intro i hi
  have := List.all_eq_true.1 h i (List.mem_range.2 hi)
  simpa using this
theorem tmp_lt : ∀ i, tmpAt i < 209 := by
  intro i
  by_cases hi : i < 82
  · have h : ∀ i, i < 82 → tmpAt i < 209 := by decide +kernel
    exact h i hi
  · have h : tmpAt i = 0 := by
      show tmpL.getD i 0 = 0
      rw [List.getD_eq_getElem?_getD, List.getElem?_eq_none (by show 82 ≤ i; omega)]
      rfl
    omega
theorem tmp_ne : ∀ i j, i < 82 → j < 82 → i ≠ j → tmpAt i ≠ 0 → tmpAt i ≠ tmpAt j := by
  have h : ∀ i, i < 82 → ∀ j, j < 82 → i ≠ j → tmpAt i ≠ 0 → tmpAt i ≠ tmpAt j := by decide +kernel
  exact fun i j hi hj => h i hi j hj
theorem tmp_far : ∀ i, i < 82 → tmpAt i ≠ 1 ∧ tmpAt i ≠ 2 ∧ tmpAt i ≠ 6 ∧ tmpAt i ≠ 7 ∧ tmpAt i ≠ 8 ∧ tmpAt i ≠ 9 := by decide +kernel
theorem takes_lt {i t : Nat} (h : t ∈ takesL.getD i []) : i < 82 := by
  rcases Nat.lt_or_ge i 82 with h' | h'
  · exact h'
  · rw [List.getD_eq_getElem?_getD, List.getElem?_eq_none (by show 82 ≤ i; omega)] at h
    simp at h

def liveK : Kind → Value → Foot → World → Prop
  | .non, _, _, _ => True
  | .val v, u, _, _ => u = v
  | .tab n, u, F, w => ∃ T, u = pt T 0 ∧ TabF T n F w
  | .nums l, u, F, w => ∃ X, u = .slice (some ⟨X, 0, none⟩) l.length l.length ∧ X < w.heap.size ∧ F X ∧ ∀ (j : Nat) (x : Int), l[j]? = some x → w.cell? ⟨X, j, none⟩ = some (.int .i64 x)
  | .link, u, F, w => ∃ T X m, u = pt T 0 ∧ 0 < m ∧ m ≤ 24 ∧ LinkG T X m F w
  | .row, u, F, w => ∃ n, 0 < n ∧ n ≤ 1000 ∧ RowF n u F w
  | .ints n, u, F, w => ∃ g cp, ∃ l : List Int, u = .slice (some ⟨g, 0, none⟩) n cp ∧ l.length = n ∧ (∀ x ∈ l, -16000 ≤ x ∧ x ≤ 16000) ∧ w.ownsRow 0 3 1 u n (l.map fun x => Value.int .i64 x) ∧ F g
theorem liveK.keep {K : Kind} {u : Value} {F : Foot} {w w' : World} (h : liveK K u F w) (hs : w.heap.size ≤ w'.heap.size) (hb : ∀ b, F b → w'.heap[b]? = w.heap[b]?) : liveK K u F w' := by
  cases K with
  | non => trivial
  | val v => exact h
  | tab n => obtain ⟨T, h1, h2⟩ := h; exact ⟨T, h1, h2.keep hs hb⟩
  | nums l =>
    obtain ⟨X, h1, h2, h3, h4⟩ := h
    exact ⟨X, h1, Nat.lt_of_lt_of_le h2 hs, h3, fun j x hx => (World.cell?_of_block (hb X h3)).trans (h4 j x hx)⟩
  | link => obtain ⟨T, X, m, h1, h2, h3, h4⟩ := h; exact ⟨T, X, m, h1, h2, h3, h4.keep hs hb⟩
  | row => obtain ⟨n, h1, h2, h3⟩ := h; exact ⟨n, h1, h2, h3.keep hb⟩
  | ints n =>
    obtain ⟨g, cp, l, rfl, h2, h3, h4, h5⟩ := h
    exact ⟨g, cp, l, rfl, h2, h3, own_block h4 (fun q hq => hb q (by injection hq with hq; rw [← hq]; exact h5)), h5⟩

structure BaseOf (c : Ctx) (a : Act) (w : World) : Prop where
  size : a.tmps.size = 209
  defers : a.defers = []
  t1 : a.eval (.tmp 1) = .slice c.A3 c.n3 c.c3
  t2 : a.eval (.tmp 2) = pt c.F 0
  t6 : a.eval (.tmp 6) = pt c.R 0
  t7 : a.eval (.tmp 7) = pt c.F 0
  t8 : a.eval (.tmp 8) = vi c.k
  t9 : a.eval (.tmp 9) = vi c.st
  below : Below c.w0.heap.size c.w0 w

def insL : List Nat := [1, 2, 3, 4, 5, 6, 7]
def Sof (listed : Array Bool) : List Nat := insL.filter fun j => listed.getD (insOf j) false
structure MapAt (R : Nat) (listed : Array Bool) (a : Act) (M : Foot) (w : World) (m : Nat) : Prop where
  t39 : a.eval (.tmp 39) = .map (some m)
  t112 : listed.getD 80 false = true → a.eval (.tmp 112) = .map (some m)
  t10 : listed.getD 81 false = true → a.eval (.tmp 10) = .map (some m)
  has : ∃ len Fm, (∀ j ∈ Sof listed, 0 < len j ∧ len j ≤ 1000) ∧ ShF m (Sof listed) len Fm w ∧ ∀ b, Fm b → M b ∧ b ≠ R
structure ShOf (c : Ctx) (listed : Array Bool) (a : Act) (M : Foot) (w : World) : Prop where
  fresh : listed.getD 5 false = false → Writer c.R c.A3 c.n3 c.c3 0 w
  writer : ∃ q, q ≤ 1 ∧ Writer c.R c.A3 c.n3 c.c3 q w
  mine : M c.R
  none : listed.getD 0 false = false → Sof listed = [] ∧ listed.getD 80 false = false ∧ listed.getD 81 false = false
  map : listed.getD 0 false = true → ∃ m, MapAt c.R listed a M w m

abbrev kindAt (c : Ctx) (i : Nat) : Kind := (kinds c).getD i .non
def lawOf (c : Ctx) : Law where
  takes i := takesL.getD i []
  live j a F w := liveK (kindAt c j) (a.eval (.tmp (tmpAt j))) F w
  sh := ShOf c
  base := BaseOf c

theorem Writer.block {R c n cap : Nat} {A : Option Addr} {w w' : World} (h : Writer R A n cap c w) (hb : w'.heap[R]? = w.heap[R]?) : Writer R A n cap c w' :=
  ⟨(World.cell?_of_block hb).trans h.ways, (World.cell?_of_block hb).trans h.count, (World.frozen?_of_block hb).trans h.free, (World.cell?_of_block hb).trans h.big⟩

theorem eval_put_far (a : Act) (d : Option Tmp) (v : Value) (t : Nat) (h : d ≠ some t) : (a.put d v).eval (.tmp t) = a.eval (.tmp t) :=
  Act.eval_put (fun e he h2 => by
    injection h2 with h2
    exact h (by rw [he, h2]))
theorem eval_put_same (a : Act) (t : Nat) (v : Value) (h : t < a.tmps.size) : (a.put (some t) v).eval (.tmp t) = v := by
  simp [Act.put, Act.eval, h]
theorem put_size (a : Act) (d : Option Tmp) (v : Value) : (a.put d v).tmps.size = a.tmps.size := by cases d <;> simp [Act.put]
theorem put_defers (a : Act) (d : Option Tmp) (v : Value) : (a.put d v).defers = a.defers := by cases d <;> rfl

theorem at_of {i : Nat} {o : Oper} (h : ops11[i]? = some o) : i < 82 ∧ opAt i = o := by
  obtain ⟨h1, h2⟩ := Array.getElem?_eq_some_iff.1 h
  rw [ops11_size] at h1
  exact ⟨h1, by show ops11.getD i default = o; rw [Array.getD_eq_getD_getElem?, h]; rfl⟩

theorem lawOf_tidy (c : Ctx) : Tidy ops11 (lawOf c) where
  one := by
    have h : ∀ i, i < 82 → ∀ k, k < 82 → ∀ t ∈ takesL.getD i [], t ∈ takesL.getD k [] → i = k := by decide +kernel
    exact fun i k t h1 h2 => h i (takes_lt h1) k (takes_lt h2) t h1 h2
  waits := by
    have h : (List.range 82).all (fun i => (takesL.getD i []).all fun t => (opAt i).after.any fun e => Region.binds .any e && (e.on == t)) = true := by kernel_rfl
    intro i o t ho ht
    obtain ⟨hi, hoo⟩ := at_of ho
    have h1 := List.all_eq_true.1 h i (List.mem_range.2 hi)
    have h2 := List.all_eq_true.1 h1 t ht
    rw [hoo] at h2
    obtain ⟨e, he, h3⟩ := Array.any_eq_true'.1 h2
    simp at h3
    exact ⟨e, he, h3.1, h3.2⟩

theorem dst_ne {i t : Nat} (hi : i < 82) (h : tmpAt i ≠ t ∨ t = 0) : (opAt i).dst ≠ some t := by
  rw [(dst_is i hi).1]
  by_cases h0 : tmpAt i = 0
  · rw [if_pos h0]; simp
  · rw [if_neg h0]
    intro e
    injection e with e
    rcases h with h | h
    · exact h e
    · exact h0 (e.trans h)

theorem BaseOf.put {c : Ctx} {a : Act} {w w' : World} {i : Nat} {v : Value} (h : BaseOf c a w) (hi : i < 82) (hb : Below c.w0.heap.size c.w0 w') : BaseOf c (a.put (opAt i).dst v) w' := by
  have f := tmp_far i hi
  refine ⟨by rw [put_size]; exact h.size, by rw [put_defers]; exact h.defers, ?_, ?_, ?_, ?_, ?_, ?_, hb⟩
  · rw [eval_put_far _ _ _ _ (dst_ne hi (Or.inl f.1))]; exact h.t1
  · rw [eval_put_far _ _ _ _ (dst_ne hi (Or.inl f.2.1))]; exact h.t2
  · rw [eval_put_far _ _ _ _ (dst_ne hi (Or.inl f.2.2.1))]; exact h.t6
  · rw [eval_put_far _ _ _ _ (dst_ne hi (Or.inl f.2.2.2.1))]; exact h.t7
  · rw [eval_put_far _ _ _ _ (dst_ne hi (Or.inl f.2.2.2.2.1))]; exact h.t8
  · rw [eval_put_far _ _ _ _ (dst_ne hi (Or.inl f.2.2.2.2.2))]; exact h.t9

theorem lawOf_stable (c : Ctx) : Stable ops11 (lawOf c) := by
  intro i j o listed a F w w' v ho hi hj hl hs hb
  obtain ⟨hi82, rfl⟩ := at_of ho
  have hne : i ≠ j := fun e => by
    subst e
    rw [getD_both' hi] at hj
    cases hj
  show liveK (kindAt c j) ((a.put (opAt i).dst v).eval (.tmp (tmpAt j))) F w'
  have hl' : liveK (kindAt c j) (a.eval (.tmp (tmpAt j))) F w' := liveK.keep hl hs hb
  by_cases hj82 : j < 82
  · have : (opAt i).dst ≠ some (tmpAt j) := by
      by_cases h0 : tmpAt j = 0
      · exact dst_ne hi82 (Or.inr h0)
      · exact dst_ne hi82 (Or.inl (fun e => tmp_ne j i hj82 hi82 (Ne.symm hne) h0 e.symm))
    rw [eval_put_far _ _ _ _ this]
    exact hl'
  · have : kindAt c j = .non := by
      show (kinds c).getD j .non = .non
      rw [List.getD_eq_getElem?_getD, List.getElem?_eq_none (by show 82 ≤ j; omega)]
      rfl
    rw [this]
    trivial

/-- When nothing is ready all are listed. -/
theorem all_listed {listed : Array Bool} (hs : listed.size = 82) (hr : Region.ready .any ops11 listed = []) : ∀ i, i < 82 → listed.getD i false = true := by
  have hback : (List.range 82).all (fun i => (opAt i).after.all fun e => !Region.binds .any e || decide (e.on < i)) = true := by kernel_rfl
  intro i
  induction i using Nat.strongRecOn with
  | _ i ih =>
    intro hi
    cases hl : listed.getD i true with
    | true =>
      have : listed[i]? = some true := by
        rw [Array.getD_eq_getD_getElem?, Array.getElem?_eq_getElem (by omega)] at hl
        rw [Array.getElem?_eq_getElem (by omega)]
        simpa using hl
      rw [Array.getD_eq_getD_getElem?, this]; rfl
    | false =>
      exfalso
      have ho : ops11[i]? = some (opAt i) := by
        show ops11[i]? = some (ops11.getD i default)
        rw [Array.getD_eq_getD_getElem?, Array.getElem?_eq_getElem (by rw [ops11_size]; exact hi)]
        rfl
      have hm : i ∈ Region.ready .any ops11 listed := mem_ready.2 ⟨hl, opAt i, ho, fun e he hb => by
        have h1 := List.all_eq_true.1 hback i (List.mem_range.2 hi)
        have h2 := Array.all_eq_true'.1 h1 e he
        simp [hb] at h2
        exact ih e.on h2 (by omega)⟩
      rw [hr] at hm
      cases hm
end Go.Proofs.YtgggpllmgnpngaaGreatDoor.Tb
