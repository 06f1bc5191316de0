/- The plain law of family names: lists of numbers alone, no program in sight. -/
namespace Go.Proofs.Ytpmlofllkhpihaa.Fam

def alpha : List Int := [97, 98, 99, 100, 101, 102, 103, 104, 105, 106, 107, 108, 109, 110, 111, 112, 113, 114, 115, 116, 117, 118, 119, 120, 121, 122, 65, 66, 67, 88, 89, 90, 32, 45, 48, 57]
def letter (z : Int) : Int := alpha.getD (z % 36).toNat 0
def small (c : Int) : Int := if 65 ≤ c ∧ c ≤ 90 then c + 32 else c
def big (c : Int) : Int := if 97 ≤ c ∧ c ≤ 122 then c - 32 else c
def plainOf (l : List Int) : List Int := l.flatMap fun c => if c = 32 then [] else [small c]
def greatOf (l : List Int) : List Int := l.flatMap fun c => [big c, 32]
/-- What 'zzFamily' makes of the runes of an ASCII text. -/
def fam (l : List Int) : List Int := l.flatMap fun c => if small c = 32 ∨ small c = 9 then [] else [small c]

/-- A character of the alphabet: printable ASCII. -/
def Ok (c : Int) : Prop := 32 ≤ c ∧ c ≤ 122

theorem letter_ok (z : Int) : Ok (letter z) := by
  have hz : (z % 36).toNat < 36 := by omega
  have : ∀ n, n < 36 → 32 ≤ alpha.getD n 0 ∧ alpha.getD n 0 ≤ 122 := by decide
  exact this _ hz

theorem small_ok {c : Int} (h : Ok c) : Ok (small c) := by unfold Ok small at *; split <;> omega
theorem big_ok {c : Int} (h : Ok c) : Ok (big c) := by unfold Ok big at *; split <;> omega

theorem plain_ok {l : List Int} (h : ∀ c ∈ l, Ok c) : ∀ c ∈ plainOf l, Ok c := by
  intro c hc
  simp only [plainOf, List.mem_flatMap] at hc
  obtain ⟨a, ha, hc⟩ := hc
  split at hc
  · simp at hc
  · simp at hc; subst hc; exact small_ok (h a ha)
theorem great_ok {l : List Int} (h : ∀ c ∈ l, Ok c) : ∀ c ∈ greatOf l, Ok c := by
  intro c hc
  simp only [greatOf, List.mem_flatMap] at hc
  obtain ⟨a, ha, hc⟩ := hc
  simp at hc
  rcases hc with rfl | rfl
  · exact big_ok (h a ha)
  · unfold Ok; omega

theorem mem_tl {P : Int → Prop} {a : Int} {l : List Int} (h : ∀ c ∈ a :: l, P c) : P a ∧ ∀ c ∈ l, P c := ⟨h a (by simp), fun c hc => h c (by simp [hc])⟩

theorem small_small (c : Int) : small (small c) = small c := by unfold small; repeat' split
                                                                all_goals omega
theorem small_big {c : Int} (_h : Ok c) : small (big c) = small c := by
  unfold small big
  repeat' split
  all_goals omega
theorem small_32 {c : Int} (_h : Ok c) : small c = 32 ↔ c = 32 := by unfold small; split <;> omega
theorem small_9 {c : Int} (h : Ok c) : ¬ small c = 9 := by unfold Ok at h; unfold small; split <;> omega

theorem fam_plain {l : List Int} (h : ∀ c ∈ l, Ok c) : fam l = plainOf l := by
  induction l with
  | nil => rfl
  | cons a l ih =>
    obtain ⟨ha, hl⟩ := mem_tl h
    have h1 := ih hl
    unfold fam plainOf at *
    rw [List.flatMap_cons, List.flatMap_cons, h1]
    congr 1
    have h32 := small_32 ha
    have h9 := small_9 ha
    by_cases e : a = 32
    · rw [if_pos e, if_pos (.inl (h32.2 e))]
    · rw [if_neg e, if_neg (fun h => h.elim (fun h => e (h32.1 h)) h9)]

theorem fam_fam {l : List Int} (h : ∀ c ∈ l, Ok c) : fam (plainOf l) = plainOf l := by
  induction l with
  | nil => rfl
  | cons a l ih =>
    obtain ⟨ha, hl⟩ := mem_tl h
    have h1 := ih hl
    unfold fam plainOf at *
    rw [List.flatMap_cons, List.flatMap_append, h1]
    congr 1
    have h32 := small_32 ha
    have h9 := small_9 ha
    by_cases e : a = 32
    · rw [if_pos e]; rfl
    · rw [if_neg e]
      simp only [List.flatMap_cons, List.flatMap_nil, List.append_nil, small_small]
      rw [if_neg (fun h => h.elim (fun h => e (h32.1 h)) h9)]

theorem fam_great {l : List Int} (h : ∀ c ∈ l, Ok c) : fam (greatOf l) = plainOf l := by
  induction l with
  | nil => rfl
  | cons a l ih =>
    obtain ⟨ha, hl⟩ := mem_tl h
    have h1 := ih hl
    unfold fam plainOf greatOf at *
    rw [List.flatMap_cons, List.flatMap_append, h1, List.flatMap_cons]
    congr 1
    have h32 := small_32 ha
    have h9 := small_9 ha
    simp only [List.flatMap_cons, List.flatMap_nil, List.append_nil, small_big ha]
    have e2 : small 32 = 32 := by decide
    rw [if_pos (c := small 32 = 32 ∨ small 32 = 9) (.inl e2), List.append_nil]
    by_cases e : a = 32
    · rw [if_pos e, if_pos (.inl (h32.2 e))]
    · rw [if_neg e, if_neg (fun h => h.elim (fun h => e (h32.1 h)) h9)]

theorem fam_ok {l : List Int} (h : ∀ c ∈ l, Ok c) : ∀ c ∈ fam l, Ok c := by rw [fam_plain h]; exact plain_ok h
theorem plain_snoc (l : List Int) (c : Int) : plainOf (l ++ [c]) = plainOf l ++ (if c = 32 then [] else [small c]) := by simp [plainOf]
theorem great_snoc (l : List Int) (c : Int) : greatOf (l ++ [c]) = greatOf l ++ [big c, 32] := by simp [greatOf]
theorem fam_snoc (l : List Int) (c : Int) : fam (l ++ [c]) = fam l ++ (if small c = 32 ∨ small c = 9 then [] else [small c]) := by simp [fam]
theorem plain_le (l : List Int) : (plainOf l).length ≤ l.length := by
  induction l with
  | nil => simp [plainOf]
  | cons a l ih => unfold plainOf at *; rw [List.flatMap_cons, List.length_append, List.length_cons]; split <;> simp only [List.length_nil, List.length_cons] <;> omega
theorem fam_le (l : List Int) : (fam l).length ≤ l.length := by
  induction l with
  | nil => simp [fam]
  | cons a l ih => unfold fam at *; rw [List.flatMap_cons, List.length_append, List.length_cons]; split <;> simp only [List.length_nil, List.length_cons] <;> omega
theorem great_len (l : List Int) : (greatOf l).length = 2 * l.length := by
  induction l with
  | nil => rfl
  | cons a l ih => unfold greatOf at *; rw [List.flatMap_cons, List.length_append, List.length_cons]; simp only [List.length_nil, List.length_cons]; omega
end Go.Proofs.Ytpmlofllkhpihaa.Fam
