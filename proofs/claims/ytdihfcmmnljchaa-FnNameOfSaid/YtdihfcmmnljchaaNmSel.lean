/- A record chosen among those parsed, walked. -/
import Derived.Test.YtdihfcmmnljchaaNmText
namespace Go.Proofs.Ytdihfcmmnljchaa.Nm
open Go Go.RowKit

/-- The numbers of a record whose text stands at a. -/
def Rec.fields (x : Rec) (a : Nat) : List Nat := (if x.mac then [1, 0, 0] else [3, 1, 1033]) ++ [x.id, x.bytes.length, a]

def RecsAt (w : World) (G : Nat) (l : List Rec) (ats : List Nat) : Prop :=
  ∀ (j : Nat) (x : Rec) (a : Nat), l[j]? = some x → ats[j]? = some a → ∀ i v, (x.fields a)[i]? = some v → w.cell? ⟨G, j * 6 + i, none⟩ = some (.int .u16 (v : Nat))

def Good (l : List Rec) (id j : Nat) : Prop := ∃ x, l[j]? = some x ∧ x.id = id ∧ 0 < x.bytes.length
def Picked (l : List Rec) (id k : Nat) (f : Int) : Prop := f = -1 ∨ ∃ j : Nat, f = j ∧ j < k ∧ Good l id j
theorem Picked.more {l : List Rec} {id k : Nat} {f : Int} (h : Picked l id k f) : Picked l id (k + 1) f := by
  rcases h with h | ⟨j, h1, h2, h3⟩
  · exact Or.inl h
  · exact Or.inr ⟨j, h1, by omega, h3⟩
structure Looked (l : List Rec) (id k : Nat) (fa fw : Int) : Prop where
  apple : Picked l id k fa
  win : Picked l id k fw
  none : fa = -1 → fw = -1 → ∀ j, j < k → ¬ Good l id j
theorem Looked.skip {l : List Rec} {id k : Nat} {fa fw : Int} (h : Looked l id k fa fw) (hg : ¬ Good l id k) : Looked l id (k + 1) fa fw :=
  ⟨h.apple.more, h.win.more, fun h1 h2 j hj => by
    by_cases e : j = k
    · subst e; exact hg
    · exact h.none h1 h2 j (by omega)⟩
theorem Looked.mac {l : List Rec} {id k : Nat} {fa fw : Int} (h : Looked l id k fa fw) (hg : Good l id k) : Looked l id (k + 1) (k : Nat) fw :=
  ⟨Or.inr ⟨k, rfl, by omega, hg⟩, h.win.more, fun h1 => by omega⟩
theorem Looked.ms {l : List Rec} {id k : Nat} {fa fw : Int} (h : Looked l id k fa fw) (hg : Good l id k) : Looked l id (k + 1) fa (k : Nat) :=
  ⟨h.apple.more, Or.inr ⟨k, rfl, by omega, hg⟩, fun _ h1 => by omega⟩

def Selected (l : List Rec) (id G : Nat) (w : World) (e : Ending) (w' : World) : Prop :=
  ((∃ j : Nat, j < l.length ∧ Good l id j ∧ e = .returned (.pointer (some ⟨G, j * 6, none⟩))) ∨ (e = .returned (.pointer none) ∧ ∀ j, j < l.length → ¬ Good l id j)) ∧ Below w.heap.size w w'

set_option maxRecDepth 1000000 in
set_option maxHeartbeats 4000000 in
theorem select_any (G n vv vc id : Nat) (A2 : Option Addr) (m cap2 : Nat) (l : List Rec) (ats : List Nat) (w : World) (hn : l.length = n) (hat : ats.length = n) (hn10 : n ≤ 10) (hG : G < w.heap.size) (_hid : id < 8) (hok : ∀ x ∈ l, x.id < 8) (hb : ∀ x ∈ l, x.bytes.length < 65536) (h : RecsAt w G l ats) :
    Calls Try.prog 20 #[.agg #[.int .u16 vv, .int .u16 vc, .slice A2 m cap2, .slice (some ⟨G, 0, none⟩) n n], .int .u16 id] w (Selected l id G w) := by
  have HN := Lib.hid hn
  have HA := Lib.hid hat
  have HOK := Lib.hid hok
  have HBY := Lib.hid hb
  have H := Lib.hid h
  clear hn hat hok hb h
  obtain ⟨w0, hw0⟩ : ∃ w0, w0 = w.alloc (.cells #[.int .u16 vv, .int .u16 vc, .slice A2 m cap2, .slice (some ⟨G, 0, none⟩) n n] 38) := ⟨_, rfl⟩
  have hbox : w0.cell? ⟨w.heap.size, 3, none⟩ = some (.slice (some ⟨G, 0, none⟩) n n) := by
    subst hw0
    rw [cell_in (heap_alloc_new w _)]
    rfl
  have hs0 : w0.heap.size = w.heap.size + 1 := by subst hw0; simp
  have hb0 : Below w.heap.size w w0 := by subst hw0; exact (Below.refl _ _).alloc (Nat.le_refl _) _
  have HW0 := Lib.hid hw0
  have HBOX := Lib.hid hbox
  have HS0 := Lib.hid hs0
  have HB0 := Lib.hid hb0
  clear hw0 hbox hs0 hb0
  go_enter Try.func20, Try.ntmps20
  go_wp2
  go_loopg [16, 5, 6, 7, 8, 9] (n) (fun gk iv rv av wv uv bv W => ∃ (k : Nat) (fa fw : Int) (b : Bool), k ≤ n ∧ gk = n - k ∧ iv = .int .i64 k ∧ rv = .int .i64 (-1) ∧ av = .int .i64 fa ∧ wv = .int .i64 fw ∧ uv = .int .i64 (-1) ∧ bv = .bool b ∧ Looked l id k fa fw ∧ Below w0.heap.size w0 W)
  case atStart => exact ⟨0, -1, -1, false, Nat.zero_le _, rfl, rfl, rfl, rfl, rfl, rfl, rfl, ⟨Or.inl rfl, Or.inl rfl, fun _ _ j hj => absurd hj (by omega)⟩, by rw [HW0.out]; exact Below.refl _ _⟩
  case round =>
    obtain ⟨k, fa, fw, b, hk, hgk, rfl, rfl, rfl, rfl, rfl, rfl, hl, hbel⟩ := hrel
    have HK := Lib.hid hgk
    have HL := Lib.hid hl
    have HB := Lib.hid hbel
    have hsz := hbel.size
    rw [HS0.out] at hsz
    clear hgk hl
    by_cases hlt : k < n
    · obtain ⟨x, hx⟩ : ∃ x, l[k]? = some x := ⟨_, List.getElem?_eq_getElem (by have := HN.out; omega)⟩
      obtain ⟨a, ha⟩ : ∃ a, ats[k]? = some a := ⟨_, List.getElem?_eq_getElem (by have := HA.out; omega)⟩
      have hxi := HOK.out x (List.mem_of_getElem? hx)
      have hxb := HBY.out x (List.mem_of_getElem? hx)
      have hc : ∀ i v, (x.fields a)[i]? = some v → wr.cell? ⟨G, k * 6 + i, none⟩ = some (.int .u16 (v : Nat)) := fun i v hi => by
        rw [← H.out k x a hx ha i v hi]
        rw [← HB0.out.cell (p := ⟨G, k * 6 + i, none⟩) hG]
        exact hbel.cell (by have := HS0.out; show G < w0.heap.size; omega)
      have hkn : (k : Int) < n := by omega
      obtain ⟨bl, hbl⟩ : ∃ bl, bl = x.bytes.length := ⟨_, rfl⟩
      have hgood : (x.id = id ∧ 0 < bl) ↔ Good l id k := by
        constructor
        · rintro ⟨h1, h2⟩; exact ⟨x, hx, h1, by omega⟩
        · rintro ⟨y, hy, h1, h2⟩
          rw [hx] at hy
          obtain rfl := Option.some.inj hy
          exact ⟨h1, by omega⟩
      have HGOOD := Lib.hid hgood
      clear hgood
      cases hmac : x.mac with
      | true =>
        have c0 := hc 0 1 (by simp [Rec.fields, hmac])
        have c1 := hc 1 0 (by simp [Rec.fields, hmac])
        have c2 := hc 2 0 (by simp [Rec.fields, hmac])
        have c3 := hc 3 x.id (by simp [Rec.fields, hmac])
        have c4 := hc 4 bl (by simp [Rec.fields, hmac, hbl])
        have c5 := hc 5 a (by simp [Rec.fields, hmac])
        rw [Nat.add_zero] at c0
        rw [← hbl] at hxb
        generalize x.id = xi at c3 HGOOD hxi
        clear hc hx ha hbel hbl hmac
        by_cases hxid : (xi : Int) = id
        · by_cases hl0 : (0 : Int) < bl
          · have HGG := Lib.hid (HGOOD.out.1 ⟨by omega, by omega⟩)
            clear HGOOD
            go_wp2
            go_roundg (n - (k + 1))
            case measure => have := HK.out; omega
            case rel => exact ⟨k + 1, k, fw, b, by omega, rfl, by go_num, rfl, rfl, rfl, rfl, rfl, HL.out.mac HGG.out, HB.out.alloc (by rw [HS0.out]; omega) _⟩
          · have HGG := Lib.hid (fun h => by have := HGOOD.out.2 h; omega : ¬ Good l id k)
            clear HGOOD
            go_wp2
            go_roundg (n - (k + 1))
            case measure => have := HK.out; omega
            case rel => exact ⟨k + 1, fa, fw, b, by omega, rfl, by go_num, rfl, rfl, rfl, rfl, rfl, HL.out.skip HGG.out, HB.out.alloc (by rw [HS0.out]; omega) _⟩
        · have HGG := Lib.hid (fun h => by have := HGOOD.out.2 h; omega : ¬ Good l id k)
          have hxid2 : ((xi : Int) == id) = false := by simpa using hxid
          clear HGOOD
          go_wp2
          go_roundg (n - (k + 1))
          case measure => have := HK.out; omega
          case rel => exact ⟨k + 1, fa, fw, b, by omega, rfl, by go_num, rfl, rfl, rfl, rfl, rfl, HL.out.skip HGG.out, HB.out.alloc (by rw [HS0.out]; omega) _⟩
      | false =>
        have c0 := hc 0 3 (by simp [Rec.fields, hmac])
        have c1 := hc 1 1 (by simp [Rec.fields, hmac])
        have c2 := hc 2 1033 (by simp [Rec.fields, hmac])
        have c3 := hc 3 x.id (by simp [Rec.fields, hmac])
        have c4 := hc 4 bl (by simp [Rec.fields, hmac, hbl])
        have c5 := hc 5 a (by simp [Rec.fields, hmac])
        rw [Nat.add_zero] at c0
        rw [← hbl] at hxb
        generalize x.id = xi at c3 HGOOD hxi
        clear hc hx ha hbel hbl hmac
        by_cases hxid : (xi : Int) = id
        · by_cases hl0 : (0 : Int) < bl
          · have HGG := Lib.hid (HGOOD.out.1 ⟨by omega, by omega⟩)
            clear HGOOD
            by_cases hfw : fw = -1
            · have hfb : (fw == -1) = true := by simpa using hfw
              clear hfw
              go_wp2
              go_roundg (n - (k + 1))
              case measure => have := HK.out; omega
              case rel => exact ⟨k + 1, fa, k, true, by omega, rfl, by go_num, rfl, rfl, rfl, rfl, rfl, HL.out.ms HGG.out, HB.out.alloc (by rw [HS0.out]; omega) _⟩
            · have hfb : (fw == -1) = false := by simpa using hfw
              clear hfw
              go_wp2
              go_roundg (n - (k + 1))
              case measure => have := HK.out; omega
              case rel => exact ⟨k + 1, fa, k, true, by omega, rfl, by go_num, rfl, rfl, rfl, rfl, rfl, HL.out.ms HGG.out, HB.out.alloc (by rw [HS0.out]; omega) _⟩
          · have HGG := Lib.hid (fun h => by have := HGOOD.out.2 h; omega : ¬ Good l id k)
            clear HGOOD
            go_wp2
            go_roundg (n - (k + 1))
            case measure => have := HK.out; omega
            case rel => exact ⟨k + 1, fa, fw, b, by omega, rfl, by go_num, rfl, rfl, rfl, rfl, rfl, HL.out.skip HGG.out, HB.out.alloc (by rw [HS0.out]; omega) _⟩
        · have HGG := Lib.hid (fun h => by have := HGOOD.out.2 h; omega : ¬ Good l id k)
          have hxid2 : ((xi : Int) == id) = false := by simpa using hxid
          clear HGOOD
          go_wp2
          go_roundg (n - (k + 1))
          case measure => have := HK.out; omega
          case rel => exact ⟨k + 1, fa, fw, b, by omega, rfl, by go_num, rfl, rfl, rfl, rfl, rfl, HL.out.skip HGG.out, HB.out.alloc (by rw [HS0.out]; omega) _⟩
    · have hkn : k = l.length := by have := HN.out; omega
      have e3 : wr.cell? ⟨w.heap.size, 3, none⟩ = some (.slice (some ⟨G, 0, none⟩) n n) := by
        rw [← HBOX.out]; exact hbel.cell (by have := HS0.out; show w.heap.size < w0.heap.size; omega)
      have HKN := Lib.hid hkn
      have HBB := Lib.hid (HB0.out.trans (hbel.mono (by have := HS0.out; omega)))
      have HLK := HL
      have hnl : n = l.length := HN.out.symm
      have HNL := Lib.hid hnl
      rcases HL.out.apple with hfa | ⟨ja, hfa, hja, hga⟩ <;> rcases HL.out.win with hfw | ⟨jw, hfw, hjw, hgw⟩
      · have HNO := Lib.hid (HL.out.none hfa hfw)
        subst hfa hfw
        clear hkn hbel hnl HL HLK
        go_wp2
        go_ret
        exact ⟨Or.inr ⟨rfl, fun j hj => HNO.out j (by have := HKN.out; omega)⟩, HBB.out⟩
      · have hj2 : (jw : Int) < n := by omega
        have HG := Lib.hid hgw
        subst hfa hfw
        clear hkn hbel hnl HL HLK hgw
        cases b
        all_goals
          go_wp2
          go_ret
          exact ⟨Or.inl ⟨jw, by have := HNL.out; omega, HG.out, rfl⟩, HBB.out⟩
      · have hj2 : (ja : Int) < n := by omega
        have HG := Lib.hid hga
        subst hfa hfw
        clear hkn hbel hnl HL HLK hga
        cases b
        all_goals
          go_wp2
          go_ret
          exact ⟨Or.inl ⟨ja, by have := HNL.out; omega, HG.out, rfl⟩, HBB.out⟩
      · have hj2 : (ja : Int) < n := by omega
        have hj3 : (jw : Int) < n := by omega
        have HG := Lib.hid hga
        have HG2 := Lib.hid hgw
        subst hfa hfw
        clear hkn hbel hnl HL HLK hga hgw
        cases b
        all_goals
          go_wp2
          go_ret
          first
            | exact ⟨Or.inl ⟨ja, by have := HNL.out; omega, HG.out, rfl⟩, HBB.out⟩
            | exact ⟨Or.inl ⟨jw, by have := HNL.out; omega, HG2.out, rfl⟩, HBB.out⟩
end Go.Proofs.Ytdihfcmmnljchaa.Nm
