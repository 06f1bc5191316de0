/- The law of the names, walked. -/
import Derived.Test.YtdihfcmmnljchaaNmOf
namespace Go.Proofs.Ytdihfcmmnljchaa.Nm
open Go Go.RowKit

theorem bytes_none {x : Rec} (h : x.bytes.length = 0) : x.runes = [] := by
  unfold Rec.bytes at h
  split at h
  · exact List.eq_nil_of_length_eq_zero h
  · rw [bytes16_len] at h
    cases hr : x.runes with
    | nil => rfl
    | cons r rs =>
      rw [hr] at h
      have e : utf16 (r :: rs) = u16 r ++ utf16 rs := by simp [utf16]
      rw [e, List.length_append] at h
      have : 0 < (u16 r).length := by unfold u16; split <;> simp
      omega

/-- What is told is what was wanted. -/
theorem told_said {l l' : List Rec} {id : Nat} {s want : ByteArray} (hp : l'.Perm l) (hs : Said l id want) (h : (∃ (j : Nat) (x : Rec), l'[j]? = some x ∧ x.id = id ∧ s = str x.runes) ∨ (s = ⟨#[]⟩ ∧ ∀ j, j < l'.length → ¬ Good l' id j)) : s = want := by
  rcases h with ⟨j, x, hx, hxi, rfl⟩ | ⟨rfl, hno⟩
  · exact hs.1 x (hp.subset (List.mem_of_getElem? hx)) hxi
  · by_cases he : ∃ x ∈ l, x.id = id
    · obtain ⟨x, hx, hxi⟩ := he
      obtain ⟨j, hj⟩ := List.getElem?_of_mem (hp.symm.subset hx)
      have hjl := (List.getElem?_eq_some_iff.1 hj).1
      have h0 : x.bytes.length = 0 := by
        by_cases h : x.bytes.length = 0
        · exact h
        · exact absurd ⟨x, hj, hxi, by omega⟩ (hno j hjl)
      have := hs.1 x hx hxi
      rw [bytes_none h0] at this
      rw [← this]
      rfl
    · exact (hs.2 (fun x hx e => he ⟨x, hx, e⟩)).symm

theorem own_recs {w : World} {base : Nat} {v : Value} {l : List Rec} (h : w.ownsRow base 35 3 v l.length (recCells l)) : ∃ (A : Option Addr) (cap : Nat), v = .slice A l.length cap ∧ ReadsRecs w A l := by
  by_cases h0 : l = []
  · subst h0
    rcases h.2 with ⟨rfl, _⟩ | ⟨g, cap, cur, rfl, _⟩
    · exact ⟨none, 0, rfl, fun hp => by simp at hp⟩
    · exact ⟨_, _, rfl, fun hp => by simp at hp⟩
  · have hp : 0 < l.length := List.length_pos_iff.mpr h0
    obtain ⟨g, cap, cur, rfl, hg, hr, h1, h2, h3, h4⟩ := Row.own_form h hp
    refine ⟨_, _, rfl, fun _ => ⟨g, rfl, fun k x hx => ?_⟩⟩
    have hc := recCells_get l k x hx
    have hl := recCells_len l
    have hk := (List.getElem?_eq_some_iff.1 hx).1
    refine ⟨?_, ?_, ?_⟩
    · rw [h.cellAt _ (by omega)]; exact hc.1
    · rw [h.cellAt _ (by omega)]; exact hc.2.1
    · rw [h.cellAt _ (by omega)]; exact hc.2.2

def Law (w : World) (e : Ending) (w' : World) : Prop := e = .returned (.bool true) ∧ Below w.heap.size w w'

theorem long_first (ln tn nw id lcap tcap wcap : Nat) (LA TA WA : Option Addr) (w : World) (hl : 2147483647 < ln) (hm : ln ≤ 9223372036854775807) :
    Calls Try.prog 3 #[.slice LA ln lcap, .slice TA tn tcap, .int .u8 id, .slice WA nw wcap] w (Law w) := by
  have d0 : decide ((2147483647 : Int) < ln) = true := decide_eq_true (by omega)
  go_enter Try.func3, Try.ntmps3
  go_wp2
  go_ret
  exact ⟨rfl, Below.refl _ _⟩

set_option maxRecDepth 1000000 in
set_option maxHeartbeats 4000000 in
theorem law_any (ln tn nw id lcap tcap wcap : Nat) (LA TA WA : Option Addr) (w : World) (hl : ln ≤ 2147483647) (ht : tn ≤ 9223372036854775807) (hm : nw ≤ 9223372036854775807) (hid : id < 256) (h1 : Halves w LA ln) (h2 : Texts w TA tn) (h3 : Ways w WA nw) :
    Calls Try.prog 3 #[.slice LA ln lcap, .slice TA tn tcap, .int .u8 id, .slice WA nw wcap] w (Law w) := by
  have hF := Lib.hid (fits_any tn TA tcap w ht h2)
  have hS := Lib.hid (some_any ln tn LA TA lcap tcap w (by omega) ht h1 h2)
  have H3 := Lib.hid h3
  have d0 : decide ((2147483647 : Int) < ln) = false := decide_eq_false (by omega)
  clear h1 h2 h3
  go_enter Try.func3, Try.ntmps3
  go_wp2_with fail
  refine hF.out.mono ?_
  rintro e w1 ⟨⟨b, rfl⟩, rfl⟩
  cases b with
  | false =>
    go_wp2
    go_ret
    exact ⟨rfl, Below.refl _ _⟩
  | true =>
  by_cases hw : 2147483647 < nw
  · have d1 : decide ((2147483647 : Int) < nw) = true := decide_eq_true (by omega)
    go_wp2
    go_ret
    exact ⟨rfl, Below.refl _ _⟩
  have d1 : decide ((2147483647 : Int) < nw) = false := decide_eq_false (by omega)
  go_wp2_with fail
  refine hS.out.mono ?_
  rintro e w2 ⟨l, v, rfl, hl10, hok, hown, hb2⟩
  obtain ⟨RA, rcap, rfl, hrd⟩ := own_recs hown
  obtain ⟨idn, hidn⟩ : ∃ idn : Nat, idn = id % 8 := ⟨_, rfl⟩
  have hid8 : idn < 8 := by omega
  have m0 : (id : Int) % 8 = (idn : Int) := by omega
  have m1 : (id : Int).tmod 8 = (idn : Int) := by rw [Int.tmod_eq_emod_of_nonneg (by omega)]; exact m0
  have HB2 := Lib.hid hb2
  have HOWN := Lib.hid hown
  have HOK := Lib.hid hok
  obtain ⟨n, hn⟩ : ∃ n, n = l.length := ⟨_, rfl⟩
  rw [← hn] at hl10 HOWN ⊢
  have HN := Lib.hid hn
  have hR := Lib.hid (ref_any n RA rcap l idn w2 hn.symm hl10 hid8 (fun x hx => (hok x hx).id) hrd)
  clear hok hown hb2 hrd hn hidn
  go_wp2_with fail
  refine hR.out.mono ?_
  rintro e w3 ⟨want, dec, rfl, hsaid, hb3⟩
  have HB3 := Lib.hid hb3
  have HSD := Lib.hid hsaid
  clear hsaid hb3
  cases dec with
  | false =>
    go_wp2
    go_ret
    exact ⟨rfl, HB2.out.trans (HB3.out.mono HB2.out.size)⟩
  | true =>
  by_cases hn0 : n = 0
  · subst hn0
    go_wp2
    go_ret
    exact ⟨rfl, HB2.out.trans (HB3.out.mono HB2.out.size)⟩
  have e0 : ((n : Int) == 0) = false := by simpa using hn0
  have hsz3 := HB3.out.size
  have hown3 : w3.ownsRow w.heap.size 35 3 (.slice RA n rcap) n (recCells l) := own_block HOWN.out (fun q hq => HB3.out.block q (HOWN.out.lt q hq).2)
  have hf3 := Row.own_form hown3 (by omega)
  obtain ⟨g, cap, cur, hf, _⟩ := hf3
  injection hf with hf1 _ hf3
  subst hf1 hf3
  have hW3 : Ways w3 WA nw := fun hp => by
    obtain ⟨b, off, e, h⟩ := H3.out hp
    refine ⟨b, off, e, fun j hj => ?_⟩
    obtain ⟨y, hy, hc⟩ := h j hj
    exact ⟨y, hy, by rw [← hc]; exact (HB2.out.trans (HB3.out.mono HB2.out.size)).cell (World.block_lt_of_cell? w _ hc)⟩
  have hBy := Lib.hid (bytes_any w.heap.size g n rcap nw wcap WA l w3 HN.out.symm (by omega) hl10 HOK.out hown3 (by omega) hW3)
  clear hown3 hW3
  go_wp2_with fail
  refine hBy.out.mono ?_
  rintro e w4 ⟨l', ats, d, q, cp, hperm, hats, hpl, hdl, rfl, hown4, hb4⟩
  have hO := Lib.hid (of_any w3.heap.size q _ cp n idn l' ats d w4 (by rw [hperm.length_eq, ← HN.out]) hats (by omega) hl10 hid8 (fun x hx => HOK.out x (hperm.subset hx)) hpl hdl rfl hown4)
  have HP := Lib.hid hperm
  have HB4 := Lib.hid hb4
  obtain ⟨N, hN⟩ : ∃ N, N = (shorts ([0, n, 6 + 12 * n] ++ flds l' ats) ++ d).length := ⟨_, rfl⟩
  rw [← hN] at hO ⊢
  clear hperm hats hpl hdl hown4 hb4 hN
  go_wp2_with fail
  refine hO.out.mono ?_
  rintro e w5 ⟨⟨s, rfl, hs⟩, hb5⟩
  obtain rfl := told_said HP.out (HSD.out trivial) hs
  have HB5 := Lib.hid hb5
  clear hs hb5
  go_wp2
  go_ret
  exact ⟨by simp, ((HB2.out.trans (HB3.out.mono HB2.out.size)).trans (HB4.out.mono (by have := HB2.out.size; omega))).trans (HB5.out.mono (by have := HB2.out.size; have := HB4.out.size; omega))⟩
end Go.Proofs.Ytdihfcmmnljchaa.Nm
