/- The bytes put together are a file's directory. Plain. -/
import Derived.Test.YtgggpllmgnpngaaGreatDoorTbIn
import Derived.Test.YtgggpllmgnpngaaGreatDoorTbWhole
namespace Go.Proofs.YtgggpllmgnpngaaGreatDoor.Tb
open Go Go.RowKit

/-- The head and the body under way. -/
structure OutS (T : Nat) (bs bb : List Nat) (vb : Value) (w0 W : World) : Prop where
  low : w0.heap.size ≤ T
  tab : ∃ v, Tab T (T + 1) bs (.slice none 0 0) W v ∧ ∀ q, vb.ownBlock = some q → q ≠ T ∧ v.ownBlock ≠ some q
  own : W.ownsRow w0.heap.size 5 1 vb bb.length (byteCells bb)
  below : Below w0.heap.size w0 W

theorem OutS.later {T : Nat} {bs bb : List Nat} {vb : Value} {w0 W W' : World} (h : OutS T bs bb vb w0 W) (k : Below W.heap.size W W') : OutS T bs bb vb w0 W' := by
  obtain ⟨v, h1, h2⟩ := h.tab
  exact ⟨h.low, ⟨v, h1.later k, h2⟩, own_block h.own (fun q hq => k.block q (h.own.lt q hq).2), h.below.trans (k.mono h.below.size)⟩

theorem OutS.wrote {T : Nat} {bs new bb : List Nat} {vb v v' : Value} {w0 W W' : World} (h : OutS T bs bb vb w0 W) (h2 : ∀ q, vb.ownBlock = some q → q ≠ T ∧ v.ownBlock ≠ some q) (ht : Tab T (T + 1) bs (.slice none 0 0) W v) (hw : Wrote T (T + 1) (bs ++ new) (.slice none 0 0) v W v' W') : OutS T (bs ++ new) bb vb w0 W' := by
  have hl := h.low
  refine ⟨h.low, ⟨v', hw.tab, fun q hq => ⟨(h2 q hq).1, fun e => ?_⟩⟩, ?_, ?_⟩
  · rcases hw.born with h3 | ⟨p, h3, h4⟩
    · exact (h2 q hq).2 (h3 ▸ e)
    · rw [h3] at e
      have := Option.some.inj e
      have := (h.own.lt q hq).2
      omega
  · exact own_block h.own (fun q hq => hw.kept.block q (h.own.lt q hq).2 (fun e => by
      rcases e with e | e
      · exact (h2 q hq).1 e
      · exact (h2 q hq).2 e.symm))
  · exact hw.kept.below h.below h.below.size (fun q hq e => by
      rcases e with e | e
      · omega
      · have := (ht.own.lt q e.symm).1; omega)

theorem long_o (T : Nat) (bs bb : List Nat) (vb : Value) (x : Int) (w0 w : World) (hx0 : 0 ≤ x) (hx1 : x < 1000000000000) (hbs : bs.length ≤ 100000) (h : OutS T bs bb vb w0 w) :
    Calls Tryz.prog 17 #[.pointer (some ⟨T, 0, none⟩), .int .i64 x] w fun e w' => e = .returned (.pointer (some ⟨T, 0, none⟩)) ∧ OutS T (bs ++ shorts [x / 65536, x]) bb vb w0 w' := by
  obtain ⟨v, h1, h2⟩ := h.tab
  refine (long_any T (T + 1) bs x (.slice none 0 0) v w hx0 hx1 hbs h1).mono ?_
  rintro e w' ⟨rfl, v', hw⟩
  exact ⟨rfl, h.wrote h2 h1 hw⟩
theorem text_o (T : Nat) (bs bb : List Nat) (vb : Value) (i : Nat) (w0 w : World) (hi : i < 8) (hbs : bs.length ≤ 100000) (h : OutS T bs bb vb w0 w) :
    Calls Tryz.prog 46 #[.pointer (some ⟨T, 0, none⟩), .string (tag i)] w fun e w' => e = .returned (.pointer (some ⟨T, 0, none⟩)) ∧ OutS T (bs ++ strBytes (tag i)) bb vb w0 w' := by
  obtain ⟨v, h1, h2⟩ := h.tab
  have hs := tags_size i hi
  refine (text_any T (T + 1) bs (tag i) (.slice none 0 0) v w (by omega) (by omega) hbs h1).mono ?_
  rintro e w' ⟨rfl, v', hw⟩
  exact ⟨rfl, h.wrote h2 h1 hw⟩

/-- The body grows. -/
theorem OutS.more {T : Nat} {bs bb new : List Nat} {vb vb' : Value} {w0 W W' : World} {n : Nat} (h : OutS T bs bb vb w0 W) (hn : n = bb.length + new.length) (hown : W'.ownsRow w0.heap.size 5 1 vb' n (byteCells bb ++ byteCells new)) (hg : W.grownBy W' vb.ownBlock) (hat : vb'.ownBlock = vb.ownBlock ∨ vb'.ownBlock = some W.heap.size) : OutS T bs (bb ++ new) vb' w0 W' := by
  obtain ⟨v, h1, h2⟩ := h.tab
  have hl := h.low
  have hT := h1.size
  have hTn : some T ≠ vb.ownBlock := fun e => (h2 T e.symm).1 rfl
  have hb := hg.block T (by omega) hTn
  refine ⟨h.low, ⟨v, ⟨(World.cell?_of_block hb).trans h1.cell, (World.cell?_of_block hb).trans h1.link, (World.frozen?_of_block hb).trans h1.free, (World.frozen?_of_block hb).trans h1.free1, own_block h1.own (fun q hq => hg.block q (h1.own.lt q hq).2 (fun e => (h2 q e.symm).2 hq)), h1.low, Nat.le_trans h1.size hg.size⟩, fun q hq => ?_⟩, ?_, ?_⟩
  · rcases hat with e | e
    · exact h2 q (e ▸ hq)
    · rw [e] at hq
      have := Option.some.inj hq
      exact ⟨by omega, fun e2 => by have := (h1.own.lt q e2).2; omega⟩
  · rw [List.length_append, byteCells_append, ← hn]
    exact hown
  · exact Kept.below h.below (kept_of_grown hg) h.below.size (fun q hq e => by have := (h.own.lt q e.symm).1; omega)

/-- An entry's bytes. -/
def entB (i : Nat) (s : Int) (o k : Nat) : List Nat := strBytes (tag i) ++ shorts [s / 65536, s] ++ shorts [(o : Int) / 65536, (o : Int)] ++ shorts [(k : Int) / 65536, (k : Int)]
def headB : List Nat := [] ++ shorts [1, 65536] ++ shorts [8, 128, 3, 0]
theorem headB_is : headB = [0, 1, 0, 0, 0, 8, 0, 128, 0, 3, 0, 0] := by decide +kernel
theorem entB_len {i : Nat} (hi : i < 8) (s : Int) (o k : Nat) : (entB i s o k).length = 16 := by
  unfold entB
  rw [List.length_append, List.length_append, List.length_append, strBytes_len, tags_size i hi]
  simp [shorts, two]
/-- The entries. -/
def ents (sm : Nat → Int) (at_ ln : Nat → Nat) (k : Nat) : List Nat := (List.range k).flatMap fun i => entB i (sm i) (at_ i) (ln i)
theorem ents_succ (sm : Nat → Int) (at_ ln : Nat → Nat) (k : Nat) : ents sm at_ ln (k + 1) = ents sm at_ ln k ++ entB k (sm k) (at_ k) (ln k) := by
  unfold ents
  rw [List.range_succ, List.flatMap_append]
  simp
theorem ents_len (sm : Nat → Int) (at_ ln : Nat → Nat) {k : Nat} (hk : k ≤ 8) : (ents sm at_ ln k).length = 16 * k := by
  induction k with
  | zero => rfl
  | succ k ih => rw [ents_succ, List.length_append, ih (by omega), entB_len (by omega)]; omega
theorem ents_at (sm : Nat → Int) (at_ ln : Nat → Nat) {k i t : Nat} (hk : k ≤ 8) (hi : i < k) (ht : t < 16) : (ents sm at_ ln k)[16 * i + t]? = (entB i (sm i) (at_ i) (ln i))[t]? := by
  induction k with
  | zero => omega
  | succ k ih =>
    rw [ents_succ]
    have hl := ents_len sm at_ ln (show k ≤ 8 by omega)
    by_cases h : i = k
    · subst h
      rw [List.getElem?_append_right (by omega), hl]
      congr 1
      omega
    · rw [List.getElem?_append_left (by omega)]
      exact ih (by omega) (by omega)
end Go.Proofs.YtgggpllmgnpngaaGreatDoor.Tb

namespace Go.Proofs.YtgggpllmgnpngaaGreatDoor.Tb
open Go Go.RowKit

def tb (i t : Nat) : Nat := ((tags.getD i []).getD t 0).toNat
theorem entB_is {i : Nat} (hi : i < 8) (s : Int) (o k : Nat) : entB i s o k = [tb i 0, tb i 1, tb i 2, tb i 3, (s / 65536 / 256 % 256).toNat, (s / 65536 % 256).toNat, (s / 256 % 256).toNat, (s % 256).toNat,
    ((o : Int) / 65536 / 256 % 256).toNat, ((o : Int) / 65536 % 256).toNat, ((o : Int) / 256 % 256).toNat, ((o : Int) % 256).toNat, ((k : Int) / 65536 / 256 % 256).toNat, ((k : Int) / 65536 % 256).toNat, ((k : Int) / 256 % 256).toNat, ((k : Int) % 256).toNat] := by
  unfold entB
  rw [tag_bytes i hi]
  simp [shorts, two, strBytes, tb]

theorem entB_byte {i : Nat} (s : Int) (o k : Nat) : ∀ b ∈ entB i s o k, b < 256 :=
  byte_append (byte_append (byte_append (strBytes_byte _) (shorts_byte _)) (shorts_byte _)) (shorts_byte _)
theorem ents_byte (sm : Nat → Int) (at_ ln : Nat → Nat) (k : Nat) : ∀ b ∈ ents sm at_ ln k, b < 256 := fun b hb => by
  unfold ents at hb
  obtain ⟨i, _, h⟩ := List.mem_flatMap.1 hb
  exact entB_byte _ _ _ b h

theorem be4_of (o : Nat) (h : o < 4294967296) : be4 ((o : Int) / 65536 / 256 % 256).toNat ((o : Int) / 65536 % 256).toNat ((o : Int) / 256 % 256).toNat ((o : Int) % 256).toNat = o := by
  unfold be4
  omega

def fileB (sm : Nat → Int) (at_ ln : Nat → Nat) (body : List Nat) : List Nat := headB ++ ents sm at_ ln 8 ++ body
theorem file_len (sm : Nat → Int) (at_ ln : Nat → Nat) (body : List Nat) : (fileB sm at_ ln body).length = 140 + body.length := by
  unfold fileB
  rw [List.length_append, List.length_append, headB_is, ents_len _ _ _ (Nat.le_refl 8)]
  rfl
theorem file_eb (sm : Nat → Int) (at_ ln : Nat → Nat) (body : List Nat) {i t : Nat} (hi : i < 8) (ht : t < 16) : eb (fileB sm at_ ln body) i t = (entB i (sm i) (at_ i) (ln i)).getD t 0 := by
  unfold eb fileB
  have hh : headB.length = 12 := by rw [headB_is]; rfl
  have hl := ents_len sm at_ ln (Nat.le_refl 8)
  rw [List.getD_eq_getElem?_getD, List.getD_eq_getElem?_getD, List.getElem?_append_left (by rw [List.length_append]; omega), List.getElem?_append_right (by omega), hh, show 12 + 16 * i + t - 12 = 16 * i + t by omega, ents_at sm at_ ln (Nat.le_refl 8) hi ht]

theorem dir_of (sm : Nat → Int) (at_ ln : Nat → Nat) (body : List Nat) (hb : ∀ b ∈ body, b < 256) (hf : ∀ i, i < 8 → at_ i + ln i ≤ 140 + body.length) (hl : body.length ≤ 90000) : Dir (fileB sm at_ ln body) at_ ln := by
  have hh : headB.length = 12 := by rw [headB_is]; rfl
  have hl8 := ents_len sm at_ ln (Nat.le_refl 8)
  have e : ∀ j, j < 12 → (fileB sm at_ ln body)[j]? = headB[j]? := fun j hj => by
    unfold fileB
    rw [List.append_assoc, List.getElem?_append_left (by omega)]
  have eb' : ∀ i t, i < 8 → t < 16 → eb (fileB sm at_ ln body) i t = (entB i (sm i) (at_ i) (ln i)).getD t 0 := fun i t hi ht => file_eb sm at_ ln body hi ht
  refine ⟨?_, ?_, ?_, ?_, ?_, ?_, ?_⟩
  · refine ⟨?_, ?_, ?_, ?_, ?_, ?_⟩ <;> rw [e _ (by omega), headB_is] <;> rfl
  · exact byte_append (byte_append (by rw [headB_is]; decide) (ents_byte _ _ _ _)) hb
  · rw [file_len]; omega
  · intro i hi
    unfold num4
    rw [eb' i _ hi (by omega), eb' i _ hi (by omega), eb' i _ hi (by omega), eb' i _ hi (by omega), entB_is hi]
    rfl
  · intro i hi
    unfold num4
    rw [eb' i _ hi (by omega), eb' i _ hi (by omega), eb' i _ hi (by omega), eb' i _ hi (by omega), entB_is hi]
    have := hf i hi
    exact be4_of (at_ i) (by omega)
  · intro i hi
    unfold num4
    rw [eb' i _ hi (by omega), eb' i _ hi (by omega), eb' i _ hi (by omega), eb' i _ hi (by omega), entB_is hi]
    have := hf i hi
    exact be4_of (ln i) (by omega)
  · intro i hi
    rw [file_len]
    exact hf i hi

/-- Rounded up. -/
def r4 (n : Nat) : Nat := (n + 3) / 4 * 4
/-- Where the tables lie. -/
def offs (ln : Nat → Nat) : Nat → Nat
  | 0 => 140
  | k + 1 => offs ln k + r4 (ln k)
theorem offs_mono (ln : Nat → Nat) {i k : Nat} (h : i < k) : offs ln i + ln i ≤ offs ln k := by
  induction k with
  | zero => omega
  | succ k ih =>
    show offs ln i + ln i ≤ offs ln k + r4 (ln k)
    by_cases e : i = k
    · subst e; unfold r4; omega
    · have := ih (by omega); omega
theorem offs_le (ln : Nat → Nat) (hl : ∀ i, i < 8 → ln i ≤ 1000) {k : Nat} (hk : k ≤ 8) : 140 ≤ offs ln k ∧ offs ln k ≤ 140 + 1004 * k ∧ offs ln k % 4 = 0 := by
  induction k with
  | zero => exact ⟨Nat.le_refl _, Nat.le_refl _, by simp [offs]⟩
  | succ k ih =>
    have h := ih (by omega)
    have := hl k (by omega)
    show 140 ≤ offs ln k + r4 (ln k) ∧ offs ln k + r4 (ln k) ≤ 140 + 1004 * (k + 1) ∧ (offs ln k + r4 (ln k)) % 4 = 0
    unfold r4
    omega
end Go.Proofs.YtgggpllmgnpngaaGreatDoor.Tb
