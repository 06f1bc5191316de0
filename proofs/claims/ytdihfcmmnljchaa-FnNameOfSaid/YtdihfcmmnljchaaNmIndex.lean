/- Where a row of bytes stands in another one, walked. -/
import Derived.Test.YtdihfcmmnljchaaNmShort
namespace Go.Proofs.Ytdihfcmmnljchaa.Nm
open Go Go.RowKit

/-- A slice of bytes reads as a list. -/
def Bytes (w : World) (A : Option Addr) (bs : List Nat) : Prop :=
  0 < bs.length → ∃ g off, A = some ⟨g, off, none⟩ ∧ ∀ j x, bs[j]? = some x → w.cell? ⟨g, off + j, none⟩ = some (.int .u8 (x : Nat))

theorem Bytes.get {w : World} {g off : Nat} {bs : List Nat} (h : Bytes w (some ⟨g, off, none⟩) bs) {j x : Nat} (hj : bs[j]? = some x) : w.cell? ⟨g, off + j, none⟩ = some (.int .u8 (x : Nat)) := by
  have hl := (List.getElem?_eq_some_iff.1 hj).1
  obtain ⟨g', off', e, hc⟩ := h (by omega)
  injection e with e
  injection e with e1 e2 _
  subst e1 e2
  exact hc j x hj

theorem take_eq {a b : List Nat} {k x y : Nat} (hx : a[k]? = some x) (hy : b[k]? = some y) (h : a.take k = b.take k) (e : x = y) : a.take (k + 1) = b.take (k + 1) := by
  obtain ⟨h1, e1⟩ := List.getElem?_eq_some_iff.1 hx
  obtain ⟨h2, e2⟩ := List.getElem?_eq_some_iff.1 hy
  rw [List.take_succ_eq_append_getElem h1, List.take_succ_eq_append_getElem h2, h, e1, e2, e]

theorem equal_any (A B : Option Addr) (n m cap cap2 : Nat) (a b : List Nat) (w : World) (ha : a.length = n) (hb : b.length = m) (hn : n ≤ 100000) (hm : m ≤ 100000) (h1 : Bytes w A a) (h2 : Bytes w B b) :
    Calls Try.prog 23 #[.slice A n cap, .slice B m cap2] w fun e w' => e = .returned (.bool (a == b)) ∧ ∃ q, w' = w.drewN q := by
  have HA := Lib.hid ha
  have HB := Lib.hid hb
  have H1 := Lib.hid h1
  have H2 := Lib.hid h2
  clear ha hb h1 h2
  by_cases hnm : (n : Int) = m
  · have hnm' : m = n := by omega
    subst hnm'
    go_enter Try.func23, Try.ntmps23
    go_wp2
    go_loopg [13] (m) (fun gk iv W => ∃ k : Nat, k ≤ m ∧ gk = m - k ∧ iv = .int .i64 k ∧ a.take k = b.take k ∧ ∃ q, W = w.drewN q)
    case atStart => exact ⟨0, Nat.zero_le _, rfl, rfl, by simp, 0, rfl⟩
    case round =>
      obtain ⟨k, hk, hgk, rfl, heq, q, rfl⟩ := hrel
      have HK := Lib.hid hgk
      have HE := Lib.hid heq
      clear hgk heq
      by_cases hlt : k < m
      · obtain ⟨g, off, rfl, hc1⟩ := H1.out (by have := HA.out; omega)
        obtain ⟨g2, off2, rfl, hc2⟩ := H2.out (by have := HB.out; omega)
        obtain ⟨x, hx⟩ : ∃ x, a[k]? = some x := ⟨_, List.getElem?_eq_getElem (by have := HA.out; omega)⟩
        obtain ⟨y, hy⟩ : ∃ y, b[k]? = some y := ⟨_, List.getElem?_eq_getElem (by have := HB.out; omega)⟩
        have c1 : (w.drewN q).cell? ⟨g, off + k, none⟩ = some (.int .u8 (x : Nat)) := hc1 k x hx
        have c2 : (w.drewN q).cell? ⟨g2, off2 + k, none⟩ = some (.int .u8 (y : Nat)) := hc2 k y hy
        obtain ⟨wq, hwq⟩ : ∃ wq, wq = w.drewN q := ⟨_, rfl⟩
        rw [← hwq] at c1 c2 ⊢
        have HW := Lib.hid hwq
        have HX := Lib.hid hx
        have HY := Lib.hid hy
        clear hc1 hc2 hx hy hwq
        by_cases hxy : (x : Int) = y
        · have hd : ((x : Int) != y) = false := by simpa using hxy
          go_wp2
          go_region
          go_wp2
          go_roundg (m - (k + 1))
          case measure => have := HK.out; omega
          case rel => exact ⟨k + 1, by omega, rfl, by go_num, take_eq HX.out HY.out HE.out (by omega), q + 1, by rw [HW.out]; rfl⟩
        · have hd : ((x : Int) != y) = true := by simpa using hxy
          go_wp2
          go_region
          go_wp2
          go_ret
          refine ⟨?_, q + 1, by rw [HW.out]; rfl⟩
          have hne : (a == b) = false := by
            rw [beq_eq_false_iff_ne]
            intro e
            have := HX.out
            rw [e, HY.out] at this
            have := Option.some.inj this
            omega
          show Ending.returned (.bool false) = _
          rw [hne]
      · have hall : a = b := by
          have h1 := HE.out
          rw [List.take_of_length_le (by have := HA.out; omega), List.take_of_length_le (by have := HB.out; omega)] at h1
          exact h1
        have hbq : (a == b) = true := by simpa using hall
        have HBQ := Lib.hid hbq
        clear hall hbq
        go_wp2
        go_ret
        exact ⟨by show Ending.returned (.bool true) = _; rw [HBQ.out], q, rfl⟩
  · have hne : (a == b) = false := by
      rw [beq_eq_false_iff_ne]
      intro e
      have h1 := HA.out
      have h2 := HB.out
      rw [e] at h1
      omega
    rw [hne]
    clear hne
    go_enter Try.func23, Try.ntmps23
    go_wp2
    go_ret
    exact ⟨rfl, 0, rfl⟩

theorem Bytes.part {w : World} {g off n : Nat} {a : List Nat} {i k : Nat} (h : Bytes w (some ⟨g, off, none⟩) a) (_hn : a.length = n) (_hi : i + k ≤ n) : Bytes w (some ⟨g, off + i, none⟩) ((a.drop i).take k) := by
  intro _
  refine ⟨g, off + i, rfl, fun j x hj => ?_⟩
  rw [List.getElem?_take] at hj
  split at hj
  · rw [List.getElem?_drop] at hj
    have := h.get hj
    rwa [← Nat.add_assoc] at this
  · simp at hj
theorem part_len {a : List Nat} {n i k : Nat} (hn : a.length = n) (hi : i + k ≤ n) : ((a.drop i).take k).length = k := by
  rw [List.length_take, List.length_drop]; omega

def Found (a b : List Nat) (r : Int) : Prop := r = -1 ∨ ∃ k : Nat, r = k ∧ k + b.length ≤ a.length ∧ (a.drop k).take b.length = b

theorem drewN_drewN (w : World) (q q' : Nat) : (w.drewN q).drewN q' = w.drewN (q + q') := by
  simp [World.drewN, Nat.add_assoc]

set_option maxHeartbeats 1000000 in
theorem index_row (g : Nat) (B : Option Addr) (n m cap cap2 : Nat) (a b : List Nat) (w : World) (ha : a.length = n) (hb : b.length = m) (hn : n ≤ 100000) (hm : m ≤ 100000) (hcap : n ≤ cap) (hcm : cap ≤ 9223372036854775807) (h1 : Bytes w (some ⟨g, 0, none⟩) a) (h2 : Bytes w B b) :
    Calls Try.prog 15 #[.slice (some ⟨g, 0, none⟩) n cap, .slice B m cap2] w fun e w' => (∃ r, e = .returned (.int .i64 r) ∧ Found a b r) ∧ ∃ q, w' = w.drewN q := by
  have HA := Lib.hid ha
  have HB := Lib.hid hb
  have H1 := Lib.hid h1
  have H2 := Lib.hid h2
  clear ha hb h1 h2
  go_enter Try.func15, Try.ntmps15
  go_wp2
  go_loopg [5] (n + 1) (fun gk iv W => ∃ i : Nat, i ≤ n + 1 ∧ gk = n + 1 - i ∧ iv = .int .i64 i ∧ ∃ q, W = w.drewN q)
  case atStart => exact ⟨0, Nat.zero_le _, rfl, rfl, 0, rfl⟩
  case round =>
    obtain ⟨i, hi, hgk, rfl, q, rfl⟩ := hrel
    have HK := Lib.hid hgk
    clear hgk
    by_cases hlt : (i : Int) + m ≤ n
    · have him : i + m ≤ n := by omega
      have hE : ∀ D : Option Addr, (D = some ⟨g, 0 + i, none⟩ ∨ m = 0) → Calls Try.prog 23 #[.slice D m (cap - i), .slice B m cap2] (w.drewN q) fun e w' => e = .returned (.bool ((a.drop i).take m == b)) ∧ ∃ q', w' = (w.drewN q).drewN q' := by
        intro D hD
        refine equal_any D B m m (cap - i) cap2 ((a.drop i).take m) b (w.drewN q) (part_len HA.out him) HB.out hm hm ?_ H2.out
        rcases hD with rfl | h0
        · exact H1.out.part HA.out him
        · intro hpos
          rw [part_len HA.out him] at hpos
          omega
      have HE := Lib.hid hE
      clear hE
      by_cases hcp : cap = i
      · have hm0 : m = 0 := by omega
        subst hm0
        subst hcp
        have hb0 : b = [] := List.eq_nil_of_length_eq_zero HB.out
        have hres : ((a.drop cap).take 0 == b) = true := by rw [hb0]; simp
        rw [Nat.sub_self, hres] at HE
        have HRES := Lib.hid hres
        clear hres hb0
        go_wp2_with fail
        refine (HE.out (some ⟨g, 0, none⟩) (Or.inr trivial)).mono ?_
        rintro e w3 ⟨rfl, q', rfl⟩
        go_wp2
        go_ret
        exact ⟨⟨_, rfl, Or.inr ⟨cap, rfl, by have := HA.out; have := HB.out; omega, by rw [HB.out]; simpa using HRES.out⟩⟩, q + q', rfl⟩
      · go_wp2_with fail
        refine (HE.out (some ⟨g, i, none⟩) (Or.inl (by rw [Nat.zero_add]))).mono ?_
        rintro e w3 ⟨rfl, q', rfl⟩
        cases heq : ((a.drop i).take m == b) with
        | true =>
          have hfound : (a.drop i).take m = b := by simpa using heq
          have HF := Lib.hid hfound
          clear heq hfound
          go_wp2
          go_ret
          exact ⟨⟨_, rfl, Or.inr ⟨i, rfl, by have := HA.out; have := HB.out; omega, by rw [HB.out]; exact HF.out⟩⟩, q + q', rfl⟩
        | false =>
          clear heq
          go_wp2
          go_roundg (n + 1 - (i + 1))
          case measure => have := HK.out; omega
          case rel => exact ⟨i + 1, by omega, rfl, by go_num, q + q', rfl⟩
    · go_wp2
      go_ret
      exact ⟨⟨_, rfl, Or.inl rfl⟩, q, rfl⟩

theorem index_nil (B : Option Addr) (m cap2 : Nat) (b : List Nat) (w : World) (hb : b.length = m) (hm : m ≤ 100000) (h2 : Bytes w B b) :
    Calls Try.prog 15 #[.slice none 0 0, .slice B m cap2] w fun e w' => (∃ r, e = .returned (.int .i64 r) ∧ Found [] b r) ∧ ∃ q, w' = w.drewN q := by
  by_cases h0 : m = 0
  · subst h0
    obtain rfl : b = [] := List.eq_nil_of_length_eq_zero hb
    have hE := equal_any none B 0 0 0 cap2 [] [] w rfl rfl (by omega) (by omega) (fun h => by simp at h) h2
    have HE := Lib.hid hE
    clear hE hb h2
    go_enter Try.func15, Try.ntmps15
    go_wp2
    refine wp_loop_rounds 1 ?_
    rw [rounds_succ]
    go_wp2_with fail
    refine HE.out.mono ?_
    rintro e w3 ⟨rfl, q', rfl⟩
    go_wp2
    go_ret
    exact ⟨⟨_, rfl, Or.inr ⟨0, rfl, by simp, rfl⟩⟩, q', rfl⟩
  · have h1 : ¬ (m : Int) ≤ 0 := by omega
    have h3 : ¬ m = 0 := h0
    go_enter Try.func15, Try.ntmps15
    go_wp2
    refine wp_loop_rounds 1 ?_
    rw [rounds_succ]
    go_wp2
    go_ret
    exact ⟨⟨_, rfl, Or.inl rfl⟩, 0, rfl⟩
end Go.Proofs.Ytdihfcmmnljchaa.Nm
