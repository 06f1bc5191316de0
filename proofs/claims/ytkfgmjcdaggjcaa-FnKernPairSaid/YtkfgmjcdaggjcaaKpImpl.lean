/- What a table of kerning says of two glyphs, walked. -/
import Derived.Test.YtkfgmjcdaggjcaaKpDoor
namespace Go.Proofs.Ytkfgmjcdaggjcaa.Kp
open Go Go.RowKit

set_option maxRecDepth 1000000 in
set_option maxHeartbeats 2000000 in
theorem door_any (g N cap n : Nat) (l : List Tri) (s1 s2 s3 : Int) (w : World) (hl : l.length = n) (hN : N = 18 + 6 * n) (h0 : 0 < n) (hn60 : n ≤ 60) (hcap : N ≤ cap) (hcm : cap ≤ 9223372036854775807) (hg : g < w.heap.size) (hok : ∀ x ∈ l, Tri.Ok x) (hr : Reads w g 0 ([0, 1, 0, 14 + 6 * (n : Int), 1, (n : Int), s1, s2, s3] ++ nums l)) :
    Calls Try.prog 11 #[.slice (some ⟨g, 0, none⟩) N cap] w fun e w' => (∃ O G : Nat, e = .returned (.tuple #[.slice (some ⟨O, 0, none⟩) 1 1, .nilIface]) ∧ w'.cell? ⟨O, 0, none⟩ = some (.iface 121 (.slice (some ⟨G, 0, none⟩) n n)) ∧ G < w'.heap.size ∧ PairsAt w' G l) ∧ Below w.heap.size w w' := by
  have H := Lib.hid (kern_any g N cap n l s1 s2 s3 w hl hN h0 hn60 hcap hcm hg hok hr)
  clear hl hN hok hr
  go_enter Try.func11, Try.ntmps11
  go_wp2_with fail
  refine H.out.mono ?_
  rintro e w1 ⟨T, G, L, h1, h2, h3, i, rfl, hT, hcell, hG, hp, hb1⟩
  have hb2 : Below w1.heap.size w1 (w1.alloc (.cells #[.int .u16 0, .slice (some ⟨T, 0, none⟩) 1 1] 62)) := (Below.refl _ _).alloc (Nat.le_refl _) _
  have hA := Lib.hid (all_any T L n h1 h2 h3 G (w1.alloc (.cells #[.int .u16 0, .slice (some ⟨T, 0, none⟩) 1 1] 62)) (by rw [World.size_alloc]; omega) (by rw [← hcell]; exact hb2.cell hT))
  have HP := Lib.hid (And.intro (hp.later hb2 hG) (Nat.lt_of_lt_of_le hG hb2.size))
  have HB := Lib.hid (hb1.trans (hb2.mono hb1.size))
  clear hcell hp hb1 hb2
  go_wp2_with fail
  refine hA.out.mono ?_
  rintro e w3 ⟨⟨O, rfl, hO, hc⟩, hb3⟩
  have HF := Lib.hid (And.intro hc (And.intro (Nat.lt_of_lt_of_le HP.out.2 hb3.size) (HP.out.1.later hb3 HP.out.2)))
  have HB3 := Lib.hid (HB.out.trans (hb3.mono HB.out.size))
  clear hc hb3
  go_wp2
  go_ret2
  exact ⟨⟨O, G, rfl, HF.out.1, HF.out.2.1, HF.out.2.2⟩, HB3.out⟩

set_option maxRecDepth 1000000 in
set_option maxHeartbeats 2000000 in
theorem impl_any (g N cap n a b : Nat) (l : List Tri) (s1 s2 s3 : Int) (w : World) (hl : l.length = n) (hN : N = 18 + 6 * n) (h0 : 0 < n) (hn60 : n ≤ 60) (hcap : N ≤ cap) (hcm : cap ≤ 9223372036854775807) (hg : g < w.heap.size) (ha : a < 40) (hb : b < 40) (hok : ∀ x ∈ l, Tri.Ok x) (hs : Str l) (hr : Reads w g 0 ([0, 1, 0, 14 + 6 * (n : Int), 1, (n : Int), s1, s2, s3] ++ nums l)) :
    Calls Try.prog 8 #[.slice (some ⟨g, 0, none⟩) N cap, .int .i64 a, .int .i64 b] w fun e w' => (∃ v, e = .returned (.tuple #[.int .i64 v, .bool true]) ∧ Answer l a b v) ∧ Below w.heap.size w w' := by
  have H := Lib.hid (door_any g N cap n l s1 s2 s3 w hl hN h0 hn60 hcap hcm hg hok hr)
  have HL := Lib.hid hl
  have HOK := Lib.hid hok
  have HS := Lib.hid hs
  have hta : ∀ (v : Value) (W : World), (Instr.typeAssert (.iface 121 v) 47 45 true).run Try.prog W = .ok (.tuple #[.iface 121 v, .bool true]) W := fun _ _ => by kernel_rfl
  have hme : ∀ (v : Value) (W : World), (method 294 121 v "KernPair").run Try.prog W = .ok (75, v) W := fun _ _ => by kernel_rfl
  have d1 : decide ((a : Int) < 0) = false := decide_eq_false (by omega)
  have d2 : decide ((b : Int) < 0) = false := decide_eq_false (by omega)
  have d3 : decide ((65535 : Int) < a) = false := decide_eq_false (by omega)
  have d4 : decide ((65535 : Int) < b) = false := decide_eq_false (by omega)
  clear hl hN hok hr hs
  go_enter Try.func8, Try.ntmps8
  go_wp2_with fail
  refine H.out.mono ?_
  rintro e w1 ⟨⟨O, G, rfl, hc, hG, hp⟩, hb1⟩
  have hF := Lib.hid (pair_any G n a b l w1 HL.out hn60 ha hb HOK.out HS.out hG hp)
  have HB1 := Lib.hid hb1
  clear hp hb1
  go_wp2_with fail
  refine hF.out.mono ?_
  rintro e w2 ⟨⟨v, rfl, hv⟩, hb2⟩
  have HV := Lib.hid hv
  have HB2 := Lib.hid (HB1.out.trans (hb2.mono HB1.out.size))
  have hvb : -32768 ≤ v ∧ v ≤ 32767 := by
    rcases hv with ⟨t, ht, _, _, rfl⟩ | ⟨rfl, _⟩
    · have := HOK.out t ht; exact ⟨this.lo, this.hi⟩
    · omega
  have hw : IntKind.i64.wrap v = v := IntWalk.i64_in _ (by omega)
  clear hv hb2
  go_wp2
  go_ret2
  exact ⟨⟨v, by first | rfl | simp [hw], HV.out⟩, HB2.out⟩
end Go.Proofs.Ytkfgmjcdaggjcaa.Kp
