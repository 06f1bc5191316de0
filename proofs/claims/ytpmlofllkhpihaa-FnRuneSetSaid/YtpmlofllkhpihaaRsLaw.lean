/- The plain law of sets of characters: what is in a set behind adding and taking away, and how many these are. -/
import Derived.Test.YtpmlofllkhpihaaRs
namespace Go.Proofs.Ytpmlofllkhpihaa.Rs
open Go

/-- How many of the first n bits are set. -/
def popN : Nat → Nat → Nat
  | 0, _ => 0
  | n + 1, b => popN n b + (b.testBit n).toNat
def pop (b : Nat) : Nat := popN 32 b

theorem popN_or (b k : Nat) : ∀ n, popN n (b ||| 2 ^ k) = popN n b + (if k < n ∧ b.testBit k = false then 1 else 0)
  | 0 => by simp [popN]
  | n + 1 => by
    have ih := popN_or b k n
    simp only [popN, ih, Nat.testBit_or, Nat.testBit_two_pow]
    by_cases hk : k = n
    · subst hk
      cases hb : b.testBit k <;> simp
    · have e1 : decide (k = n) = false := by simpa using hk
      by_cases hlt : k < n
      · have e2 : k < n + 1 := by omega
        simp only [hlt, e2, e1, Bool.or_false, true_and]
        omega
      · have e2 : ¬ k < n + 1 := by omega
        simp only [hlt, e2, e1, Bool.or_false, false_and, if_false]
        omega

/-- The word without bit k. -/
def clr (b k : Nat) : Nat := b &&& (4294967295 - 2 ^ k)
theorem testBit_mask (k j : Nat) (hk : k < 32) (hj : j < 32) : (4294967295 - 2 ^ k).testBit j = !decide (k = j) := by
  have : ∀ k, k < 32 → ∀ j, j < 32 → (4294967295 - 2 ^ k).testBit j = !decide (k = j) := by decide +kernel
  exact this k hk j hj
theorem popN_clr (b k : Nat) (hk : k < 32) : ∀ n, n ≤ 32 → popN n (clr b k) + (if k < n ∧ b.testBit k = true then 1 else 0) = popN n b
  | 0, _ => by simp [popN]
  | n + 1, hn => by
    have ih := popN_clr b k hk n (by omega)
    simp only [popN]
    have e : (clr b k).testBit n = (b.testBit n && !decide (k = n)) := by
      unfold clr
      rw [Nat.testBit_and, testBit_mask k n hk (by omega)]
    rw [e]
    by_cases hkn : k = n
    · subst hkn
      cases hb : b.testBit k <;> simp [hb] at ih ⊢ <;> omega
    · have e1 : decide (k = n) = false := by simpa using hkn
      by_cases hlt : k < n
      · have e2 : k < n + 1 := by omega
        simp only [hlt, true_and] at ih
        simp only [e2, e1, Bool.not_false, Bool.and_true, true_and]
        omega
      · have e2 : ¬ k < n + 1 := by omega
        simp only [hlt, false_and, if_false] at ih
        simp only [e2, e1, Bool.not_false, Bool.and_true, false_and, if_false]
        omega

theorem popN_add (m x : Nat) : ∀ n, popN (m + n) x = popN m x + popN n (x >>> m)
  | 0 => by simp [popN]
  | n + 1 => by
    rw [← Nat.add_assoc]
    simp only [popN, popN_add m x n, Nat.testBit_shiftRight]
    omega
theorem popN_mod (x : Nat) : ∀ n, n ≤ 8 → popN n (x % 256) = popN n x
  | 0, _ => rfl
  | n + 1, h => by
    have e : (x % 256).testBit n = x.testBit n := by
      rw [show (256 : Nat) = 2 ^ 8 from rfl, Nat.testBit_mod_two_pow]
      simp; omega
    simp only [popN, popN_mod x n (by omega), e]
/-- A word's bits, byte by byte. -/
theorem pop_bytes (x : Nat) : pop x = popN 8 (x >>> 24) + popN 8 ((x >>> 16) % 256) + popN 8 ((x >>> 8) % 256) + popN 8 (x % 256) := by
  unfold pop
  have h1 := popN_add 8 x 24
  have h2 := popN_add 8 (x >>> 8) 16
  have h3 := popN_add 8 (x >>> 16) 8
  rw [← Nat.shiftRight_add] at h2 h3
  simp only [Nat.reduceAdd] at h1 h2 h3
  rw [h1, h2, h3, popN_mod _ 8 (by omega), popN_mod _ 8 (by omega), popN_mod _ 8 (by omega)]
  omega
theorem pop_le (n b : Nat) : popN n b ≤ n := by
  induction n with
  | zero => simp [popN]
  | succ n ih => simp only [popN]; cases b.testBit n <;> simp <;> omega

def cntP (p : Page) : Nat := (p.bits.map pop).sum
def cnt (ps : List Page) : Nat := (ps.map cntP).sum

theorem sum_set (l : List Nat) (k b : Nat) (h : k < l.length) : (l.set k b).sum + l.getD k 0 = l.sum + b := by
  induction l generalizing k with
  | nil => simp at h
  | cons x l ih =>
    cases k with
    | zero => simp; omega
    | succ k =>
      have := ih k (by simpa using h)
      simp only [List.set_cons_succ, List.sum_cons, List.getD_cons_succ]
      omega
theorem cnt_setw : ∀ (ps : List Page) (i k b : Nat) (p : Page), ps[i]? = some p → k < p.bits.length → cnt (setw ps i k b) + pop (p.bits.getD k 0) = cnt ps + pop b
  | [], _, _, _, _, h, _ => by simp at h
  | q :: ps, 0, k, b, p, h, hk => by
    simp at h
    subst h
    have := sum_set (q.bits.map pop) k (pop b) (by simpa using hk)
    rw [← List.map_set] at this
    have e : (q.bits.map pop).getD k 0 = pop (q.bits.getD k 0) := by simp [List.getD, hk]
    rw [e] at this
    simp only [cnt, setw, cntP, List.modify_zero_cons, List.map_cons, List.sum_cons]
    omega
  | q :: ps, i + 1, k, b, p, h, hk => by
    have := cnt_setw ps i k b p (by simpa using h) hk
    unfold cnt setw at *
    simp only [List.modify_succ_cons, List.map_cons, List.sum_cons]
    omega

def zeroP (ref : Nat) : Page := ⟨ref, List.replicate 8 0⟩
theorem cntP_zero (ref : Nat) : cntP (zeroP ref) = 0 := by
  show ((List.replicate 8 0).map pop).sum = 0
  decide
/-- The pages with one of this number. -/
def ins (ps : List Page) (ref : Nat) : List Page := if hit ps ref then ps else ps.take (lo ps ref) ++ zeroP ref :: ps.drop (lo ps ref)
theorem cnt_append (a b : List Page) : cnt (a ++ b) = cnt a + cnt b := by simp [cnt]
theorem cnt_ins (ps : List Page) (ref : Nat) : cnt (ins ps ref) = cnt ps := by
  unfold ins
  split
  · rfl
  · have e : cnt ps = cnt (ps.take (lo ps ref)) + cnt (ps.drop (lo ps ref)) := by rw [← cnt_append, List.take_append_drop]
    rw [cnt_append, e]
    have := cntP_zero ref
    simp only [cnt, List.map_cons, List.sum_cons]
    omega

theorem ins_at {ps : List Page} (ref : Nat) : ∃ p, (ins ps ref)[lo ps ref]? = some p ∧ p.ref = ref := by
  unfold ins
  split
  · rename_i h
    unfold hit at h
    cases hp : ps[lo ps ref]? with
    | none => rw [hp] at h; simp at h
    | some p => rw [hp] at h; exact ⟨p, rfl, by simpa using h⟩
  · refine ⟨zeroP ref, ?_, rfl⟩
    rw [List.getElem?_append_right (by simp [Nat.min_le_left])]
    simp [Nat.min_eq_left (lo_le ps ref)]
theorem ins_good {ps : List Page} (h : Good ps) {ref : Nat} (hr : ref < 65536) : Good (ins ps ref) := by
  unfold ins
  split
  · exact h
  · intro p hp
    simp only [List.mem_append, List.mem_cons] at hp
    rcases hp with hp | rfl | hp
    · exact h p (List.mem_of_mem_take hp)
    · exact ⟨rfl, by simp [zeroP], hr⟩
    · exact h p (List.mem_of_mem_drop hp)
theorem ins_rising {ps : List Page} (h : Rising ps) (ref : Nat) : Rising (ins ps ref) := by
  unfold ins
  split
  · exact h
  · rename_i hh
    unfold Rising at *
    rw [List.pairwise_append]
    refine ⟨h.sublist (List.take_sublist _ _), ?_, ?_⟩
    · rw [List.pairwise_cons]
      refine ⟨fun p hp => ?_, h.sublist (List.drop_sublist _ _)⟩
      obtain ⟨j, hj⟩ := List.mem_iff_getElem?.1 hp
      rw [List.getElem?_drop] at hj
      have h1 := lo_above ps ref _ p h (Nat.le_add_right _ _) hj
      rcases Nat.lt_or_ge ref p.ref with h2 | h2
      · exact h2
      · have := (lo_hit (ref := ref) h hj (by omega)).2
        rw [this] at hh
        simp at hh
    · intro a ha b hb
      obtain ⟨i, hi⟩ := List.mem_iff_getElem?.1 ha
      rw [List.getElem?_take] at hi
      have hlt : i < lo ps ref := by
        rcases Nat.lt_or_ge i (lo ps ref) with h | h
        · exact h
        · rw [if_neg (by omega)] at hi; simp at hi
      rw [if_pos hlt] at hi
      have h1 := lo_below ps ref i a hlt hi
      simp only [List.mem_cons] at hb
      rcases hb with rfl | hb
      · exact h1
      · obtain ⟨j, hj⟩ := List.mem_iff_getElem?.1 hb
        rw [List.getElem?_drop] at hj
        have h2 := lo_above ps ref _ b h (Nat.le_add_right _ _) hj
        omega
theorem ins_lo {ps : List Page} (h : Rising ps) (ref : Nat) : lo (ins ps ref) ref = lo ps ref := by
  obtain ⟨p, hp, he⟩ := ins_at (ps := ps) ref
  exact (lo_hit (ins_rising h ref) hp he).1.symm

theorem setw_get (ps : List Page) (i k b j : Nat) : (setw ps i k b)[j]? = if i = j then (ps[j]?).map (fun p => { p with bits := p.bits.set k b }) else ps[j]? := by
  unfold setw
  rw [List.getElem?_modify]
  split <;> simp
theorem setw_refs (ps : List Page) (i k b : Nat) : (setw ps i k b).map (·.ref) = ps.map (·.ref) := by
  apply List.ext_getElem?
  intro j
  rw [List.getElem?_map, List.getElem?_map, setw_get]
  split
  · cases ps[j]? <;> rfl
  · rfl
theorem rising_refs (ps : List Page) : Rising ps ↔ (ps.map (·.ref)).Pairwise (· < ·) := by unfold Rising; rw [List.pairwise_map]
theorem setw_rising {ps : List Page} (h : Rising ps) (i k b : Nat) : Rising (setw ps i k b) := by
  rw [rising_refs, setw_refs, ← rising_refs]; exact h
theorem setw_good {ps : List Page} (h : Good ps) (i k : Nat) {b : Nat} (hb : b < 4294967296) : Good (setw ps i k b) := by
  intro p hp
  obtain ⟨j, hj⟩ := List.mem_iff_getElem?.1 hp
  rw [setw_get] at hj
  split at hj
  · cases hq : ps[j]? with
    | none => rw [hq] at hj; simp at hj
    | some q =>
      rw [hq] at hj
      simp at hj
      subst hj
      obtain ⟨h1, h2, h3⟩ := h q (List.mem_of_getElem? hq)
      refine ⟨by simpa using h1, fun x hx => ?_, h3⟩
      rcases List.mem_or_eq_of_mem_set hx with hx | rfl
      · exact h2 x hx
      · exact hb
  · exact h p (List.mem_of_getElem? hj)

/-- Is the character in the set? -/
def mem (ps : List Page) (r : Nat) : Bool := match ps[lo ps (r / 256)]? with
  | some p => p.ref == r / 256 && (p.bits.getD (r % 256 / 32) 0).testBit (r % 32)
  | none => false
theorem mem_iff {ps : List Page} (h : Rising ps) (r : Nat) : mem ps r = true ↔ ∃ (i : Nat) (p : Page), ps[i]? = some p ∧ p.ref = r / 256 ∧ (p.bits.getD (r % 256 / 32) 0).testBit (r % 32) = true := by
  constructor
  · intro hm
    unfold mem at hm
    cases hp : ps[lo ps (r / 256)]? with
    | none => rw [hp] at hm; simp at hm
    | some p =>
      rw [hp] at hm
      simp only [Bool.and_eq_true, beq_iff_eq] at hm
      exact ⟨_, p, hp, hm.1, hm.2⟩
  · rintro ⟨i, p, hp, he, hb⟩
    obtain ⟨rfl, _⟩ := lo_hit h hp he
    unfold mem
    rw [hp]
    simp [he]
    exact hb

def wordAt (ps : List Page) (i k : Nat) : Nat := match ps[i]? with | some p => p.bits.getD k 0 | none => 0
def add (ps : List Page) (r : Nat) : List Page := setw (ins ps (r / 256)) (lo ps (r / 256)) (r % 256 / 32) (wordAt (ins ps (r / 256)) (lo ps (r / 256)) (r % 256 / 32) ||| 2 ^ (r % 32))
def del (ps : List Page) (r : Nat) : List Page := if hit ps (r / 256) then setw ps (lo ps (r / 256)) (r % 256 / 32) (clr (wordAt ps (lo ps (r / 256)) (r % 256 / 32)) (r % 32)) else ps

theorem word_lt {ps : List Page} (h : Good ps) (i k : Nat) : wordAt ps i k < 4294967296 := by
  unfold wordAt
  cases hp : ps[i]? with
  | none => simp
  | some p =>
    simp only
    rw [List.getD]
    cases hb : p.bits[k]? with
    | none => simp
    | some b => exact (h p (List.mem_of_getElem? hp)).2.1 b (List.mem_of_getElem? hb)

theorem add_good {ps : List Page} (h : Good ps) {r : Nat} (hr : r < 16777216) : Good (add ps r) := by
  refine setw_good (ins_good h (by omega)) _ _ ?_
  refine Nat.or_lt_two_pow (n := 32) (word_lt (ins_good h (by omega)) _ _) ?_
  exact Nat.pow_lt_pow_right (by decide) (by omega)
theorem del_good {ps : List Page} (h : Good ps) (r : Nat) : Good (del ps r) := by
  unfold del
  split
  · refine setw_good h _ _ ?_
    unfold clr
    exact Nat.lt_of_le_of_lt Nat.and_le_left (word_lt h _ _)
  · exact h
theorem add_rising {ps : List Page} (h : Rising ps) (r : Nat) : Rising (add ps r) := setw_rising (ins_rising h _) _ _ _
theorem del_rising {ps : List Page} (h : Rising ps) (r : Nat) : Rising (del ps r) := by
  unfold del
  split
  · exact setw_rising h _ _ _
  · exact h

theorem ins_mem {ps : List Page} (h : Rising ps) (ref r : Nat) : mem (ins ps ref) r = mem ps r := by
  rw [Bool.eq_iff_iff, mem_iff (ins_rising h ref), mem_iff h]
  unfold ins
  split
  · exact Iff.rfl
  · constructor
    · rintro ⟨i, p, hp, he, hb⟩
      have hm := List.mem_of_getElem? hp
      simp only [List.mem_append, List.mem_cons] at hm
      rcases hm with hm | rfl | hm
      · obtain ⟨j, hj⟩ := List.mem_iff_getElem?.1 (List.mem_of_mem_take hm)
        exact ⟨j, p, hj, he, hb⟩
      · exfalso
        have : ((zeroP ref).bits.getD (r % 256 / 32) 0) = 0 := by
          simp only [zeroP, List.getD]
          cases h8 : (List.replicate 8 0)[r % 256 / 32]? with
          | none => rfl
          | some x => exact (List.mem_replicate.1 (List.mem_of_getElem? h8)).2
        rw [this] at hb
        simp at hb
      · obtain ⟨j, hj⟩ := List.mem_iff_getElem?.1 (List.mem_of_mem_drop hm)
        exact ⟨j, p, hj, he, hb⟩
    · rintro ⟨i, p, hp, he, hb⟩
      have hm : p ∈ ps.take (lo ps ref) ++ zeroP ref :: ps.drop (lo ps ref) := by
        have := List.mem_of_getElem? hp
        rw [← List.take_append_drop (lo ps ref) ps] at this
        simp only [List.mem_append, List.mem_cons] at this ⊢
        rcases this with h | h
        · exact .inl h
        · exact .inr (.inr h)
      obtain ⟨j, hj⟩ := List.mem_iff_getElem?.1 hm
      exact ⟨j, p, hj, he, hb⟩

/-- What a new word changes: the bits of one word of one page. -/
theorem setw_mem {ps : List Page} (hg : Good ps) {ref k b : Nat} (hh : hit ps ref = true) (hk : k < 8) (x : Nat) :
    mem (setw ps (lo ps ref) k b) x = if x / 256 = ref ∧ x % 256 / 32 = k then b.testBit (x % 32) else mem ps x := by
  have hlo : lo (setw ps (lo ps ref) k b) (x / 256) = lo ps (x / 256) := by
    unfold lo
    have : ∀ (a b : List Page) (n : Nat), a.map (·.ref) = b.map (·.ref) → (a.takeWhile fun p => p.ref < n).length = (b.takeWhile fun p => p.ref < n).length := by
      intro a
      induction a with
      | nil => intro b n hb; cases b with | nil => rfl | cons _ _ => simp at hb
      | cons p a ih =>
        intro b n hb
        cases b with
        | nil => simp at hb
        | cons q b =>
          simp only [List.map_cons, List.cons.injEq] at hb
          have := ih b n hb.2
          rw [List.takeWhile_cons, List.takeWhile_cons, hb.1]
          split
          · simp [this]
          · rfl
    exact this _ _ _ (setw_refs ps _ k b)
  unfold mem
  rw [hlo, setw_get]
  by_cases hx : x / 256 = ref
  · subst hx
    rw [if_pos rfl]
    unfold hit at hh
    cases hp : ps[lo ps (x / 256)]? with
    | none => rw [hp] at hh; simp at hh
    | some p =>
      rw [hp] at hh
      have hl := (hg p (List.mem_of_getElem? hp)).1
      simp only [Option.map_some, true_and, hh, Bool.true_and]
      by_cases hxk : x % 256 / 32 = k
      · rw [if_pos hxk, hxk]
        simp [List.getD, hl, hk]
      · rw [if_neg hxk]
        simp [List.getD, Ne.symm hxk]
  · rw [if_neg (c := x / 256 = ref ∧ x % 256 / 32 = k) (fun he => hx he.1)]
    by_cases he : lo ps ref = lo ps (x / 256)
    · rw [if_pos he]
      cases hp : ps[lo ps (x / 256)]? with
      | none => rfl
      | some p =>
        have hr : p.ref = ref := by
          unfold hit at hh
          rw [he, hp] at hh
          simpa using hh
        have e0 : (p.ref == x / 256) = false := by rw [hr]; simp; omega
        simp only [Option.map_some, e0, Bool.false_and]
    · rw [if_neg he]

theorem hit_ins {ps : List Page} (h : Rising ps) (ref : Nat) : hit (ins ps ref) ref = true := by
  obtain ⟨p, hp, he⟩ := ins_at (ps := ps) ref
  exact (lo_hit (ins_rising h ref) hp he).2
theorem hit_word {ps : List Page} {ref : Nat} (hh : hit ps ref = true) (r : Nat) (hr : r / 256 = ref) : mem ps r = (wordAt ps (lo ps ref) (r % 256 / 32)).testBit (r % 32) := by
  unfold hit at hh
  unfold mem wordAt
  rw [hr]
  cases hp : ps[lo ps ref]? with
  | none => rw [hp] at hh; simp at hh
  | some p => rw [hp] at hh; simp only [hh, Bool.true_and]

theorem same_rune {x r : Nat} (h1 : x / 256 = r / 256) (h2 : x % 256 / 32 = r % 256 / 32) (h3 : x % 32 = r % 32) : x = r := by omega

theorem add_mem {ps : List Page} (h : Rising ps) (hg : Good ps) {r : Nat} (hr : r < 16777216) (x : Nat) : mem (add ps r) x = (x == r || mem ps x) := by
  have hi := ins_rising h (r / 256)
  have hgi := ins_good hg (ref := r / 256) (by omega)
  have hh := hit_ins h (r / 256)
  have e := setw_mem hgi hh (k := r % 256 / 32) (b := wordAt (ins ps (r / 256)) (lo ps (r / 256)) (r % 256 / 32) ||| 2 ^ (r % 32)) (by omega) x
  rw [ins_lo h] at e
  unfold add
  rw [e]
  have hw := hit_word hh x
  rw [ins_lo h] at hw
  split
  · rename_i hx
    rw [Nat.testBit_or, ← hx.2, ← hw hx.1, ins_mem h, Nat.testBit_two_pow]
    have : decide (r % 32 = x % 32) = (x == r) := by
      rw [Bool.eq_iff_iff]
      simp only [decide_eq_true_eq, beq_iff_eq]
      exact ⟨fun h3 => same_rune hx.1 hx.2 h3.symm, fun h3 => by rw [h3]⟩
    rw [this, Bool.or_comm]
  · rename_i hx
    rw [ins_mem h]
    have : (x == r) = false := by
      rw [beq_eq_false_iff_ne]
      rintro rfl
      exact hx ⟨rfl, rfl⟩
    rw [this, Bool.false_or]

theorem del_mem {ps : List Page} (hg : Good ps) (r x : Nat) : mem (del ps r) x = (x != r && mem ps x) := by
  unfold del
  split
  · rename_i hh
    rw [setw_mem hg hh (by omega) x]
    split
    · rename_i hx
      have hw := hit_word hh x hx.1
      unfold clr
      rw [Nat.testBit_and, ← hx.2, ← hw, testBit_mask _ _ (by omega) (by omega), Bool.and_comm]
      congr 1
      rw [Bool.eq_iff_iff]
      simp only [Bool.not_eq_true', decide_eq_false_iff_not, bne_iff_ne]
      exact ⟨fun h3 e => h3 (by rw [e]), fun h3 e => h3 (same_rune hx.1 hx.2 e.symm)⟩
    · rename_i hx
      have : (x != r) = true := by
        rw [bne_iff_ne]
        rintro rfl
        exact hx ⟨rfl, rfl⟩
      rw [this, Bool.true_and]
  · rename_i hh
    by_cases hx : x = r
    · subst hx
      simp
      unfold mem
      unfold hit at hh
      cases hp : ps[lo ps (x / 256)]? with
      | none => rfl
      | some p =>
        rw [hp] at hh
        simp at hh
        simp [hh]
    · have : (x != r) = true := by rw [bne_iff_ne]; exact hx
      rw [this, Bool.true_and]

theorem add_cnt {ps : List Page} (h : Rising ps) (hg : Good ps) {r : Nat} (hr : r < 16777216) : cnt (add ps r) = cnt ps + (if mem ps r then 0 else 1) := by
  have hgi := ins_good hg (ref := r / 256) (by omega)
  have hh := hit_ins h (r / 256)
  obtain ⟨p, hp, he⟩ := ins_at (ps := ps) (r / 256)
  have hw := hit_word hh r rfl
  rw [ins_lo h, ins_mem h] at hw
  have e := cnt_setw (ins ps (r / 256)) (lo ps (r / 256)) (r % 256 / 32) (wordAt (ins ps (r / 256)) (lo ps (r / 256)) (r % 256 / 32) ||| 2 ^ (r % 32)) p hp (by rw [(hgi p (List.mem_of_getElem? hp)).1]; omega)
  have ew : wordAt (ins ps (r / 256)) (lo ps (r / 256)) (r % 256 / 32) = p.bits.getD (r % 256 / 32) 0 := by unfold wordAt; rw [hp]
  have e2 := popN_or (wordAt (ins ps (r / 256)) (lo ps (r / 256)) (r % 256 / 32)) (r % 32) 32
  rw [← hw] at e2
  rw [cnt_ins, ← ew] at e
  unfold add
  unfold pop at e
  rw [e2] at e
  have h32 : r % 32 < 32 := by omega
  cases hm : mem ps r <;> simp [hm, h32] at e ⊢ <;> omega

theorem del_cnt {ps : List Page} (hg : Good ps) (r : Nat) : cnt (del ps r) + (if mem ps r then 1 else 0) = cnt ps := by
  unfold del
  split
  · rename_i hh
    have hw := hit_word hh r rfl
    cases hp : ps[lo ps (r / 256)]? with
    | none => unfold hit at hh; rw [hp] at hh; simp at hh
    | some p =>
      have e := cnt_setw ps (lo ps (r / 256)) (r % 256 / 32) (clr (wordAt ps (lo ps (r / 256)) (r % 256 / 32)) (r % 32)) p hp (by rw [(hg p (List.mem_of_getElem? hp)).1]; omega)
      have ew : wordAt ps (lo ps (r / 256)) (r % 256 / 32) = p.bits.getD (r % 256 / 32) 0 := by unfold wordAt; rw [hp]
      have e2 := popN_clr (wordAt ps (lo ps (r / 256)) (r % 256 / 32)) (r % 32) (by omega) 32 (Nat.le_refl _)
      rw [← hw] at e2
      rw [← ew] at e
      unfold pop at e
      have h32 : r % 32 < 32 := by omega
      cases hm : mem ps r <;> simp [hm, h32] at e2 ⊢ <;> omega
  · rename_i hh
    have : mem ps r = false := by
      unfold mem
      unfold hit at hh
      cases hp : ps[lo ps (r / 256)]? with
      | none => rfl
      | some p =>
        rw [hp] at hh
        simp at hh
        simp [hh]
    rw [this]
    simp
end Go.Proofs.Ytpmlofllkhpihaa.Rs
