/- The writer's choice, and whether a column's numbers are of one byte, walked. -/
import Derived.Test.YtdknpamegphjlaaShort
namespace Go.Proofs.Ytdknpamegphjlaa.Sd
open Go Go.RowKit

structure Writer (R : Nat) (A : Option Addr) (n cap c : Nat) (W : World) : Prop where
  ways : W.cell? ⟨R, 0, none⟩ = some (.slice A n cap)
  count : W.cell? ⟨R, 1, none⟩ = some (.int .i64 (c : Nat))
  free : W.frozen? ⟨R, 1, none⟩ = false

structure Chose (R : Nat) (A : Option Addr) (n cap c : Nat) (w w' : World) : Prop where
  writer : ∃ c', c' ≤ c + 1 ∧ Writer R A n cap c' w'
  kept : Kept (fun k => k = R) w w'

theorem chose_next {R : Nat} {A : Option Addr} {n cap c : Nat} {w : World} (h : Writer R A n cap c w) (q : Nat) : Chose R A n cap c w ((w.drewN q).setCell ⟨R, 1, none⟩ (.int .i64 ((c : Int) + 1))) := by
  refine ⟨⟨c + 1, Nat.le_refl _, ?_, ?_, ?_⟩, ?_⟩
  · rw [World.cell?_setCell_other _ _ _ _ (by simp)]; exact h.ways
  · have := World.cell?_setCell_same (w := w.drewN q) (a := ⟨R, 1, none⟩) (v := .int .i64 ((c : Int) + 1)) h.count
    rw [this]
    rfl
  · rw [World.frozen?_setCell]; exact h.free
  · exact ⟨rfl, rfl, rfl, by rw [World.size_setCell]; exact Nat.le_refl _, fun k _ hk => by rw [Below.heap_setCell _ _ _ _ hk]; rfl⟩

set_option maxRecDepth 100000 in
set_option maxHeartbeats 2000000 in
theorem way_any (R : Nat) (A : Option Addr) (n cap c : Nat) (w : World) (hn : n ≤ 2147483647) (hc : c ≤ 100) (hw : Writer R A n cap c w) (hA : InU8 w A n) :
    Calls Try.prog 26 #[.pointer (some ⟨R, 0, none⟩), .int .i64 2] w fun e w' => (∃ r, e = .returned (.int .i64 r)) ∧ Chose R A n cap c w w' := by
  have h0 := hw.ways
  have h1 := hw.count
  have hf := hw.free
  have HW := Lib.hid hw
  have HAA := Lib.hid hA
  clear hw hA
  by_cases hz : n = 0
  · subst hz
    go_enter Try.func26, Try.ntmps26
    go_wp2
    go_ret
    exact ⟨⟨_, rfl⟩, ⟨c, Nat.le_succ c, HW.out⟩, Kept.refl _ _⟩
  · obtain ⟨b, off, rfl, hcells⟩ := HAA.out (by omega)
    obtain ⟨r, hr⟩ : ∃ r : Nat, r = c % n := ⟨_, rfl⟩
    have hrn : r < n := by rw [hr]; exact Nat.mod_lt _ (by omega)
    obtain ⟨x, hx, c0⟩ := hcells r hrn
    obtain ⟨d, hd⟩ : ∃ d : Nat, d = c / n := ⟨_, rfl⟩
    have hdc : d ≤ 100 := by rw [hd]; exact Nat.le_trans (Nat.div_le_self _ _) hc
    have e1 : (c : Int) % (n : Int) = (r : Int) := by rw [hr]; exact (Int.natCast_emod c n).symm
    have e2 : (c : Int) / (n : Int) = (d : Int) := by rw [hd]; exact (Int.natCast_ediv c n).symm
    have e3 : (c : Int).tmod (n : Int) = (r : Int) := by rw [Int.tmod_eq_emod_of_nonneg (by omega)]; exact e1
    have e4 : (c : Int).tdiv (n : Int) = (d : Int) := by rw [Int.tdiv_eq_ediv_of_nonneg (by omega)]; exact e2
    have e5 : IntKind.i64.wrap (d : Int) = d := IntWalk.i64_in _ (by omega)
    have e6 : IntKind.i64.wrap ((x : Int) + d) = (x : Int) + d := IntWalk.i64_in _ (by omega)
    have n0 : (n : Int) ≠ 0 := by omega
    have n1 : ¬ (n : Int) = 0 := by omega
    have i1 : (r : Int) < n := by omega
    clear hr hd hcells
    go_enter Try.func26, Try.ntmps26
    go_wp2
    go_quiet (fail)
    go_wp2
    go_ret
    exact ⟨⟨_, rfl⟩, chose_next HW.out nq⟩

theorem row_at {S : Nat → Prop} {w : World} {A : Option Addr} {cap n : Nat} {cs : List Value} (h : Row S w (.slice A n cap) n cs) {j : Nat} {x : Value} (hx : cs[j]? = some x) : ∃ g, A = some ⟨g, 0, none⟩ ∧ g < w.heap.size ∧ ¬ S g ∧ w.cell? ⟨g, j, none⟩ = some x := by
  obtain ⟨A', cap', hv, h1, h2, h0, h3⟩ := h
  injection hv with e1 _ e3
  subst e1 e3
  have hn : 0 < n := by
    rcases Nat.eq_zero_or_pos n with e | e
    · rw [h0 e] at hx; simp at hx
    · exact e
  obtain ⟨g, e, hg, hS, hc⟩ := h3 hn
  exact ⟨g, e, hg, hS, hc j x hx⟩
theorem grid_at {S : Nat → Prop} {w : World} {A : Option Addr} {cap n : Nat} {rows : List (List Int)} (h : GridR S w (.slice A n cap) rows) {i : Nat} {r : List Int} (hr : rows[i]? = some r) :
    ∃ g A' cap', A = some ⟨g, 0, none⟩ ∧ g < w.heap.size ∧ ¬ S g ∧ w.cell? ⟨g, i, none⟩ = some (.slice A' r.length cap') ∧ IntsR S w (.slice A' r.length cap') r := by
  obtain ⟨vs, h1, h2, h3⟩ := h
  obtain ⟨u, hu⟩ : ∃ u, vs[i]? = some u := ⟨_, List.getElem?_eq_getElem (by have := (List.getElem?_eq_some_iff.1 hr).1; omega)⟩
  have h4 := h3 i u r hu hr
  have h2' := h2
  obtain ⟨A0, c0, e, _⟩ := h2
  injection e with e1 e2 e3
  subst e1 e2 e3
  obtain ⟨g, eg, hg, hS, hc⟩ := row_at h2' hu
  obtain ⟨A', cap', eu, _⟩ := h4
  rw [eu] at hc
  exact ⟨g, A', cap', eg, hg, hS, hc, by rw [← eu]; exact h3 i u r hu hr⟩
theorem grid_len {S : Nat → Prop} {w : World} {v : Value} {rows : List (List Int)} (h : GridR S w v rows) : ∃ A cap, v = .slice A rows.length cap ∧ rows.length ≤ cap ∧ cap ≤ 9223372036854775807 := by
  obtain ⟨vs, h1, h2, h3⟩ := h
  exact h2.len

/-- Numbers of one byte. -/
def Tiny (x : Int) : Prop := -128 ≤ x ∧ x ≤ 127

def Narrows (rows : List (List Int)) (k : Nat) (w : World) (e : Ending) (w' : World) : Prop :=
  (∃ b, e = .returned (.bool b) ∧ (b = true → ∀ r ∈ rows, ∀ x, r[k]? = some x → Tiny x)) ∧ w = w'

set_option maxRecDepth 100000 in
set_option maxHeartbeats 2000000 in
theorem narrow_any (S : Nat → Prop) (v : Value) (rows : List (List Int)) (k c : Nat) (w : World) (h : GridR S w v rows) (hk : ∀ r ∈ rows, r.length = c) (hkc : k < c) (hr : rows.length ≤ 100) :
    Calls Try.prog 27 #[v, .int .i64 k] w (Narrows rows k w) := by
  obtain ⟨A, cap, rfl, h1, h2⟩ := grid_len h
  have HG := Lib.hid h
  have HK := Lib.hid hk
  obtain ⟨n, hn⟩ : ∃ n, n = rows.length := ⟨_, rfl⟩
  rw [← hn] at h1 hr HG ⊢
  have HN := Lib.hid hn
  clear h hk hn
  go_enter Try.func27, Try.ntmps27
  go_wp2_with fail
  go_loopg [9] (n) (fun gk iv W => ∃ j : Nat, j ≤ n ∧ gk = n - j ∧ iv = .int .i64 j ∧ (∀ (i : Nat) r, i < j → rows[i]? = some r → ∀ x, r[k]? = some x → Tiny x) ∧ w = W)
  case atStart => exact ⟨0, Nat.zero_le _, rfl, rfl, fun i r hi => by omega, rfl⟩
  case round =>
    obtain ⟨j, hj, hgk, rfl, hall, rfl⟩ := hrel
    have HGK := Lib.hid hgk
    have HALL := Lib.hid hall
    clear hgk hall
    by_cases hlt : j < n
    · obtain ⟨r, hr⟩ : ∃ r, rows[j]? = some r := ⟨_, List.getElem?_eq_getElem (by have := HN.out; omega)⟩
      obtain ⟨g, A', cap', rfl, hg, hS, hcell, hint⟩ := grid_at HG.out hr
      have hrl := HK.out r (List.mem_of_getElem? hr)
      obtain ⟨x, hx⟩ : ∃ x, r[k]? = some x := ⟨_, List.getElem?_eq_getElem (by omega)⟩
      obtain ⟨g2, rfl, hg2, hS2, hcell2⟩ := row_at hint (j := k) (x := .int .i64 x) (by simp [hx])
      rw [hrl] at hcell
      have hjn : (j : Int) < n := by omega
      have hkc2 : (k : Int) < c := by omega
      have HR := Lib.hid (And.intro hr hx)
      clear hr hx hint hrl
      have nxt : Tiny x → ∀ (i : Nat) r, i < j + 1 → rows[i]? = some r → ∀ x, r[k]? = some x → Tiny x := fun ht i r' hi hr' y hy => by
        by_cases e : i = j
        · subst e
          rw [HR.out.1] at hr'
          obtain rfl := Option.some.inj hr'
          rw [HR.out.2] at hy
          obtain rfl := Option.some.inj hy
          exact ht
        · exact HALL.out i r' (by omega) hr' y hy
      have HNX := Lib.hid nxt
      clear nxt
      by_cases h1 : x < -128
      · go_wp2_with fail
        go_ret
        exact ⟨⟨false, rfl, fun h => by simp at h⟩, rfl⟩
      · by_cases h2 : (127 : Int) < x
        · have d1 : decide (x < -128) = false := decide_eq_false h1
          go_wp2_with fail
          go_ret
          exact ⟨⟨false, rfl, fun h => by simp at h⟩, rfl⟩
        · have d1 : decide (x < -128) = false := decide_eq_false h1
          have d2 : decide ((127 : Int) < x) = false := decide_eq_false h2
          go_wp2_with fail
          go_roundg (n - (j + 1))
          case measure => have := HGK.out; omega
          case rel => exact ⟨j + 1, by omega, rfl, by go_num, HNX.out ⟨by omega, by omega⟩, rfl⟩
    · go_wp2_with fail
      go_ret
      refine ⟨⟨true, rfl, fun _ r hr x hx => ?_⟩, rfl⟩
      obtain ⟨i, hi⟩ := List.getElem?_of_mem hr
      exact HALL.out i r (by have := (List.getElem?_eq_some_iff.1 hi).1; have := HN.out; omega) hi x hx
end Go.Proofs.Ytdknpamegphjlaa.Sd
