/- What a table's bytes say of a number, walked. -/
import Derived.Test.YtdihfcmmnljchaaNmBytes
import Derived.Test.YtdihfcmmnljchaaNmTab
namespace Go.Proofs.Ytdihfcmmnljchaa.Nm
open Go Go.RowKit

theorem flds_at (l : List Rec) : ∀ (ats : List Nat) (j i a v : Nat) (x : Rec), l[j]? = some x → ats[j]? = some a → (x.fields a)[i]? = some v → (flds l ats)[j * 6 + i]? = some v := by
  induction l with
  | nil => intro ats j i a v x hx; simp at hx
  | cons y l ih =>
    intro ats j i a v x hx ha hv
    cases ats with
    | nil => simp at ha
    | cons b ats =>
      have e : flds (y :: l) (b :: ats) = y.fields b ++ flds l ats := by simp [flds]
      rw [e]
      have hi : i < 6 := by rw [← fields_len x a]; exact (List.getElem?_eq_some_iff.1 hv).1
      cases j with
      | zero =>
        simp at hx ha
        subst hx ha
        rw [List.getElem?_append_left (by rw [fields_len]; omega)]
        simpa using hv
      | succ j =>
        rw [List.getElem?_append_right (by rw [fields_len]; omega), fields_len, show (j + 1) * 6 + i - 6 = j * 6 + i by omega]
        exact ih ats j i a v x (by simpa using hx) (by simpa using ha) hv

theorem shorts_ge (n : Nat) (fl d : List Nat) (hf : fl.length = n * 6) (j : Nat) : (shorts ([0, n, 6 + 12 * n] ++ fl) ++ d)[6 + 12 * n + j]? = d[j]? := by
  have hl : (shorts ([0, n, 6 + 12 * n] ++ fl)).length = 6 + 12 * n := by
    rw [shorts_len, List.length_append, hf]
    simp
    omega
  rw [List.getElem?_append_right (by omega), hl, Nat.add_sub_cancel_left]

theorem laid_of {w : World} {l : List Rec} {ats d : List Nat} {g n G : Nat} {A2 : Option Addr} (hl : l.length = n) (hat : ats.length = n) (hpl : Placed l ats d) (hd : d.length ≤ 12000) (hg : g < w.heap.size)
    (hc : ∀ j x, (shorts ([0, n, 6 + 12 * n] ++ flds l ats) ++ d)[j]? = some x → w.cell? ⟨g, j, none⟩ = some (.int .u8 (x : Nat)))
    (hG : ∀ j x, (flds l ats)[j]? = some x → w.cell? ⟨G, j, none⟩ = some (.int .u16 (x : Nat))) (hA : 0 < d.length → A2 = some ⟨g, 6 + 12 * n, none⟩) : Laid w A2 d.length G l ats := by
  refine ⟨fun j x a hx ha i v hv => hG _ _ (flds_at l ats j i a v x hx ha hv), fun j x a hx ha => ?_⟩
  obtain ⟨h1, h2⟩ := hpl j x a hx ha
  refine ⟨by omega, h1, fun hp => ⟨g, 6 + 12 * n, hA (by omega), hg, fun i v hv => hc _ _ ?_⟩⟩
  have hfl : (flds l ats).length = n * 6 := by rw [flds_len, List.length_zip, hl, hat, Nat.min_self]
  rw [Nat.add_assoc, shorts_ge n _ d hfl]
  rw [← h2] at hv
  rw [List.getElem?_take] at hv
  split at hv
  · rwa [List.getElem?_drop] at hv
  · simp at hv

theorem fields_lt {x : Rec} {a : Nat} (h : x.Ok) (ha : a < 65536) : ∀ v ∈ x.fields a, v < 65536 := by
  intro v hv
  have := h.bytes_le
  have := h.id
  unfold Rec.fields at hv
  cases hm : x.mac with
  | true =>
    rw [hm] at hv
    simp at hv
    rcases hv with h | h | h | h | h <;> omega
  | false =>
    rw [hm] at hv
    simp at hv
    rcases hv with h | h | h | h | h | h <;> omega

def Told (l : List Rec) (id : Nat) (w : World) (e : Ending) (w' : World) : Prop :=
  (∃ s, e = .returned (.tuple #[.string s, .bool true]) ∧ ((∃ (j : Nat) (x : Rec), l[j]? = some x ∧ x.id = id ∧ s = str x.runes) ∨ (s = ⟨#[]⟩ ∧ ∀ j, j < l.length → ¬ Good l id j))) ∧ Below w.heap.size w w'

set_option maxRecDepth 1000000 in
set_option maxHeartbeats 4000000 in
theorem of_any (base g N cap n id : Nat) (l : List Rec) (ats d : List Nat) (w : World) (hl : l.length = n) (hat : ats.length = n) (h0 : 0 < n) (hn10 : n ≤ 10) (hid : id < 8) (hok : ∀ x ∈ l, x.Ok) (hpl : Placed l ats d) (hd : d.length ≤ 1200 * n)
    (hN : (shorts ([0, n, 6 + 12 * n] ++ flds l ats) ++ d).length = N) (hown : w.ownsRow base 5 1 (.slice (some ⟨g, 0, none⟩) N cap) N (byteCells (shorts ([0, n, 6 + 12 * n] ++ flds l ats) ++ d))) :
    Calls Try.prog 7 #[.slice (some ⟨g, 0, none⟩) N cap, .int .i64 id] w (Told l id w) := by
  have hfl : (flds l ats).length = n * 6 := by rw [flds_len, List.length_zip, hl, hat, Nat.min_self]
  have hN2 : N = 6 + 12 * n + d.length := by
    rw [← hN, List.length_append, shorts_len, List.length_append, hfl]
    simp
    omega
  have hg := hown.lt g rfl
  have hc : ∀ j x, (shorts ([0, n, 6 + 12 * n] ++ flds l ats) ++ d)[j]? = some x → w.cell? ⟨g, j, none⟩ = some (.int .u8 (x : Nat)) := fun j x hj => by
    have hjl := (List.getElem?_eq_some_iff.1 hj).1
    rw [hown.cellAt j (by omega)]
    simp only [byteCells, List.getElem?_map, hj, Option.map_some]
  have hflt : ∀ v ∈ flds l ats, v < 65536 := by
    intro v hv
    obtain ⟨p, hp, hv⟩ := List.mem_flatMap.mp hv
    obtain ⟨j, hj⟩ := List.getElem?_of_mem hp
    rw [List.getElem?_zip_eq_some] at hj
    have := hpl j p.1 p.2 hj.1 hj.2
    exact fields_lt (hok _ (List.mem_of_getElem? hj.1)) (by omega) v hv
  obtain ⟨cap', hcc, hcap⟩ : ∃ c, c = cap ∧ N ≤ c ∧ c ≤ 9223372036854775807 := by
    rcases hown.2 with ⟨e, _⟩ | ⟨g2, c2, cur, e, _, _, h1, h2, _⟩
    · simp at e
    · injection e with _ _ e
      subst e
      exact ⟨_, rfl, h1, by unfold maxLen at h2; omega⟩
  subst hcc
  have hP := Lib.hid (parse_any g N cap' n (flds l ats) d w hN hfl h0 hn10 (by omega) hcap.1 hcap.2 hg.2 hflt hc)
  have HC := Lib.hid hc
  have HL := Lib.hid hl
  have HAT := Lib.hid hat
  have HOK := Lib.hid hok
  have HPL := Lib.hid hpl
  have hg2 := hg.2
  have hcm := hcap.2
  have hNc := hcap.1
  have HN2 := Lib.hid hN2
  have hmc : d.length ≤ cap' - (6 + 12 * n) := by omega
  clear hl hat hok hpl hN hown hfl hN2 hg hc hflt hcap
  go_enter Try.func7, Try.ntmps7
  go_wp2_with fail
  refine hP.out.mono ?_
  rintro e w1 ⟨A2, G, i, rfl, hG, hcells, hA2, hb1⟩
  have hl1 := laid_of (w := w1) HL.out HAT.out HPL.out (by omega) (Nat.lt_of_lt_of_le hg2 hb1.size) (fun j x hj => by rw [← HC.out j x hj]; exact hb1.cell hg2) hcells hA2
  have hb2 : Below w1.heap.size w1 (w1.alloc (.cells #[.int .u16 0, .int .u16 (n : Nat), .slice A2 d.length (cap' - (6 + 12 * n)), .slice (some ⟨G, 0, none⟩) n n] 38)) := (Below.refl _ _).alloc (Nat.le_refl _) _
  have hNm := Lib.hid (name_any G n 0 n id A2 d.length (cap' - (6 + 12 * n)) l ats (w1.alloc (.cells #[.int .u16 0, .int .u16 (n : Nat), .slice A2 d.length (cap' - (6 + 12 * n)), .slice (some ⟨G, 0, none⟩) n n] 38)) HL.out HAT.out hn10 (by rw [World.size_alloc]; omega) hid HOK.out hmc (by omega) (hl1.later hb2 hG))
  have HB := Lib.hid (hb1.trans (hb2.mono hb1.size))
  clear hl1 hb2 hcells hA2 hb1
  go_wp2_with fail
  refine hNm.out.mono ?_
  rintro e w2 ⟨⟨s, rfl, hs⟩, hb3⟩
  have HS := Lib.hid hs
  have HB3 := Lib.hid hb3
  clear hs hb3
  go_wp2
  go_ret2
  exact ⟨⟨s, rfl, HS.out⟩, HB.out.trans (HB3.out.mono HB.out.size)⟩
end Go.Proofs.Ytdihfcmmnljchaa.Nm
