/- What a table of names says of a number, walked. -/
import Derived.Test.YtdihfcmmnljchaaNmSel
namespace Go.Proofs.Ytdihfcmmnljchaa.Nm
open Go Go.RowKit

/-- The bytes of a record's text stand at a. -/
def TextAt (w : World) (A2 : Option Addr) (m : Nat) (x : Rec) (a : Nat) : Prop :=
  a + x.bytes.length ≤ m ∧ (0 < x.bytes.length → ∃ g off, A2 = some ⟨g, off, none⟩ ∧ g < w.heap.size ∧ ∀ j v, x.bytes[j]? = some v → w.cell? ⟨g, off + a + j, none⟩ = some (.int .u8 (v : Nat)))

theorem utf16_len (rs : List Nat) : (utf16 rs).length ≤ 2 * rs.length := by
  induction rs with
  | nil => simp [utf16]
  | cons r rs ih =>
    have e : utf16 (r :: rs) = u16 r ++ utf16 rs := by simp [utf16]
    rw [e, List.length_append, List.length_cons]
    have : (u16 r).length ≤ 2 := by unfold u16; split <;> simp
    omega
theorem utf16_lt (rs : List Nat) (h : ∀ r ∈ rs, r < 1114112) : ∀ x ∈ utf16 rs, x < 65536 := by
  intro x hx
  obtain ⟨r, hr, hx⟩ := List.mem_flatMap.mp hx
  have := h r hr
  unfold u16 at hx
  split at hx
  · simp at hx; omega
  · simp at hx; omega
theorem Rec.Ok.bytes_le {x : Rec} (h : x.Ok) : x.bytes.length ≤ 1200 := by
  have := h.few
  unfold Rec.bytes
  split
  · omega
  · rw [bytes16_len]; have := utf16_len x.runes; omega

set_option maxRecDepth 1000000 in
set_option maxHeartbeats 4000000 in
theorem text_any (vv vc a m cap2 : Nat) (A2 : Option Addr) (NR : Value) (x : Rec) (w : World) (hx : x.Ok) (ha : a < 65536) (hm : m ≤ cap2) (hc2 : cap2 ≤ 9223372036854775807) (hpos : 0 < x.bytes.length) (ht : TextAt w A2 m x a) :
    Calls Try.prog 21 #[.agg #[.int .u16 vv, .int .u16 vc, .slice A2 m cap2, NR], .agg ((x.fields a).map fun v => Value.int .u16 (v : Nat)).toArray] w fun e w' => e = .returned (.string (str x.runes)) ∧ Below w.heap.size w w' := by
  obtain ⟨hle, hrd⟩ := ht
  obtain ⟨g, off, rfl, hg, hcells⟩ := hrd hpos
  clear hrd
  have hlen := hx.bytes_le
  have hv : ∀ r ∈ x.runes, Val r := fun r hr => (hx.all r hr).val
  have h131 : ∀ r ∈ x.runes, r < 1114112 := fun r hr => by have := hx.all r hr; unfold Allowed at this; omega
  have hfew := hx.few
  obtain ⟨bl, hbl⟩ : ∃ bl, bl = x.bytes.length := ⟨_, rfl⟩
  have hid := hx.id
  have hbel : ∀ W1 : World, W1 = (w.alloc (.cells #[.int .u16 vv, .int .u16 vc, .slice (some ⟨g, off, none⟩) m cap2, NR] 38)).alloc (.cells ((x.fields a).map fun v => Value.int .u16 (v : Nat)).toArray 67) → Below w.heap.size w W1 := fun W1 h => by
    subst h
    exact ((Below.refl _ _).alloc (Nat.le_refl _) _).alloc (by simp) _
  have f1 : ¬ (m : Int) < (a : Int) + bl := by omega
  have d1 : decide ((m : Int) < (a : Int) + bl) = false := decide_eq_false f1
  have f2 : (a : Int) + bl ≤ cap2 := by omega
  have f3 : (0 : Int) ≤ (a : Int) + bl := by omega
  have f4 : (a : Int) ≤ (a : Int) + bl := by omega
  have f5 : ((a : Int) + bl).toNat = a + bl := by omega
  have f6 : ¬ cap2 = a := by omega
  have f7 : a + bl - a = bl := by omega
  cases hmac : x.mac with
  | true =>
    have hb : x.bytes = x.runes := by simp [Rec.bytes, hmac]
    have hn : x.runes.length = bl := by rw [hbl, hb]
    have ef : ((x.fields a).map fun v => Value.int .u16 (v : Nat)).toArray = #[.int .u16 1, .int .u16 0, .int .u16 0, .int .u16 x.id, .int .u16 bl, .int .u16 a] := by
      simp [Rec.fields, hmac, hbl]
    have h32 : ∀ r ∈ x.runes, 32 ≤ r ∧ r < 127 := fun r hr => by have := hx.all r hr; rw [hmac] at this; unfold Allowed at this; simp at this; omega
    obtain ⟨W1, hW1⟩ : ∃ W1, W1 = (w.alloc (.cells #[.int .u16 vv, .int .u16 vc, .slice (some ⟨g, off, none⟩) m cap2, NR] 38)).alloc (.cells ((x.fields a).map fun v => Value.int .u16 (v : Nat)).toArray 67) := ⟨_, rfl⟩
    have hB := hbel W1 hW1
    have hC := Lib.hid (macdec_any g (off + a) bl (cap2 - a) x.runes W1 hn (by omega) (Nat.lt_of_lt_of_le hg hB.size) h32 (fun j v hj => by
      rw [← hcells j v (by rw [hb]; exact hj)]
      exact hB.cell hg))
    have HB := Lib.hid hB
    rw [hW1, ef] at hC HB
    rw [ef]
    generalize x.id = xi at *
    clear hx hcells hv h131 hb hn ef h32 hbel hW1 hB hbl hle hpos
    go_enter Try.func21, Try.ntmps21
    go_wp2_with fail
    refine hC.out.mono ?_
    rintro e w1 ⟨rfl, hb1⟩
    have HB1 := Lib.hid hb1
    clear hb1
    go_wp2
    go_ret
    exact ⟨rfl, HB.out.trans (HB1.out.mono HB.out.size)⟩
  | false =>
    have hb : x.bytes = bytes16 (utf16 x.runes) := by simp [Rec.bytes, hmac]
    have hn : bl = 2 * (utf16 x.runes).length := by rw [hbl, hb, bytes16_len]
    have ef : ((x.fields a).map fun v => Value.int .u16 (v : Nat)).toArray = #[.int .u16 3, .int .u16 1, .int .u16 1033, .int .u16 x.id, .int .u16 bl, .int .u16 a] := by
      simp [Rec.fields, hmac, hbl]
    obtain ⟨W1, hW1⟩ : ∃ W1, W1 = (w.alloc (.cells #[.int .u16 vv, .int .u16 vc, .slice (some ⟨g, off, none⟩) m cap2, NR] 38)).alloc (.cells ((x.fields a).map fun v => Value.int .u16 (v : Nat)).toArray 67) := ⟨_, rfl⟩
    have hB := hbel W1 hW1
    have hC := Lib.hid (text16_any g (off + a) bl (utf16 x.runes).length (cap2 - a) x.runes W1 rfl hn (by omega) (by omega) (by omega) (by omega) hv (utf16_lt _ h131) h131 (Nat.lt_of_lt_of_le hg hB.size) (fun j v hj => by
      rw [← hcells j v (by rw [hb]; exact hj)]
      exact hB.cell hg))
    have HB := Lib.hid hB
    rw [hW1, ef] at hC HB
    rw [ef]
    generalize x.id = xi at *
    clear hx hcells hv h131 hb hn ef hbel hW1 hB hbl hle hpos
    go_enter Try.func21, Try.ntmps21
    go_wp2_with fail
    refine hC.out.mono ?_
    rintro e w1 ⟨rfl, hb1⟩
    have HB1 := Lib.hid hb1
    clear hb1
    go_wp2
    go_ret
    exact ⟨rfl, HB.out.trans (HB1.out.mono HB.out.size)⟩

/-- The table as it lies parsed. -/
structure Laid (w : World) (A2 : Option Addr) (m G : Nat) (l : List Rec) (ats : List Nat) : Prop where
  recs : RecsAt w G l ats
  texts : ∀ (j : Nat) (x : Rec) (a : Nat), l[j]? = some x → ats[j]? = some a → a < 65536 ∧ TextAt w A2 m x a

theorem Laid.later {w w' : World} {A2 : Option Addr} {m G : Nat} {l : List Rec} {ats : List Nat} (h : Laid w A2 m G l ats) (hb : Below w.heap.size w w') (hG : G < w.heap.size) : Laid w' A2 m G l ats := by
  refine ⟨fun j x a hx ha i v hi => by rw [← h.recs j x a hx ha i v hi]; exact hb.cell hG, fun j x a hx ha => ?_⟩
  obtain ⟨h1, h2, h3⟩ := h.texts j x a hx ha
  refine ⟨h1, h2, fun hp => ?_⟩
  obtain ⟨g, off, e, hg, hc⟩ := h3 hp
  exact ⟨g, off, e, Nat.lt_of_lt_of_le hg hb.size, fun i v hi => by rw [← hc i v hi]; exact hb.cell hg⟩

theorem six_of (fl : List Nat) (h : fl.length = 6) : ∃ p0 p1 p2 p3 p4 p5, fl = [p0, p1, p2, p3, p4, p5] := by
  match fl, h with
  | [p0, p1, p2, p3, p4, p5], _ => exact ⟨p0, p1, p2, p3, p4, p5, rfl⟩

def Named (l : List Rec) (id : Nat) (w : World) (e : Ending) (w' : World) : Prop :=
  (∃ s, e = .returned (.string s) ∧ ((∃ (j : Nat) (x : Rec), l[j]? = some x ∧ x.id = id ∧ s = str x.runes) ∨ (s = ⟨#[]⟩ ∧ ∀ j, j < l.length → ¬ Good l id j))) ∧ Below w.heap.size w w'

set_option maxRecDepth 1000000 in
set_option maxHeartbeats 1000000 in
theorem name_any (G n vv vc id : Nat) (A2 : Option Addr) (m cap2 : Nat) (l : List Rec) (ats : List Nat) (w : World) (hn : l.length = n) (hat : ats.length = n) (hn10 : n ≤ 10) (hG : G < w.heap.size) (hid : id < 8) (hok : ∀ x ∈ l, x.Ok) (hm : m ≤ cap2) (hc2 : cap2 ≤ 9223372036854775807) (h : Laid w A2 m G l ats) :
    Calls Try.prog 10 #[.agg #[.int .u16 vv, .int .u16 vc, .slice A2 m cap2, .slice (some ⟨G, 0, none⟩) n n], .int .u16 id] w (Named l id w) := by
  obtain ⟨w0, hw0⟩ : ∃ w0, w0 = w.alloc (.cells #[.int .u16 vv, .int .u16 vc, .slice A2 m cap2, .slice (some ⟨G, 0, none⟩) n n] 38) := ⟨_, rfl⟩
  have hs0 : w0.heap.size = w.heap.size + 1 := by subst hw0; simp
  have hb0 : Below w.heap.size w w0 := by subst hw0; exact (Below.refl _ _).alloc (Nat.le_refl _) _
  have hbx : w0.heap[w.heap.size]? = some (.cells #[.int .u16 vv, .int .u16 vc, .slice A2 m cap2, .slice (some ⟨G, 0, none⟩) n n] 38 (0, 0)) := by subst hw0; exact heap_alloc_new w _
  have hl0 := h.later hb0 hG
  have hS := Lib.hid (select_any G n vv vc id A2 m cap2 l ats w0 hn hat hn10 (by omega) hid (fun x hx => (hok x hx).id) (fun x hx => by have := (hok x hx).bytes_le; omega) hl0.recs)
  have HN := Lib.hid hn
  have HA := Lib.hid hat
  have HOK := Lib.hid hok
  have HL0 := Lib.hid hl0
  have HS0 := Lib.hid hs0
  have HB0 := Lib.hid hb0
  have HBX := Lib.hid hbx
  rw [hw0] at hS
  have HW0 := Lib.hid hw0
  clear hn hat hok h hl0 hs0 hb0 hbx hw0
  go_enter Try.func10, Try.ntmps10
  go_wp2_with fail
  refine hS.out.mono ?_
  rintro e w1 ⟨hsel, hb1⟩
  rw [← HW0.out] at hb1
  have HB1 := Lib.hid hb1
  have hsz1 := hb1.size
  have hbw : Below w.heap.size w w1 := HB0.out.trans (hb1.mono (by have := HS0.out; omega))
  have HBW := Lib.hid hbw
  rcases hsel with ⟨j, hj, hgj, rfl⟩ | ⟨rfl, hno⟩
  · obtain ⟨x, hx, hxid, hpos⟩ := hgj
    obtain ⟨a, ha⟩ : ∃ a, ats[j]? = some a := ⟨_, List.getElem?_eq_getElem (by have := HA.out; have := HN.out; omega)⟩
    have hl1 := HL0.out.later hb1 (by have := HS0.out; omega)
    obtain ⟨ha16, htx⟩ := hl1.texts j x a hx ha
    have hxok := HOK.out x (List.mem_of_getElem? hx)
    have hC := Lib.hid (fun W (hW : W = w1.drew) => text_any vv vc a m cap2 A2 (.slice (some ⟨G, 0, none⟩) n n) x W hxok ha16 hm hc2 hpos (by subst hW; exact htx))
    obtain ⟨fl, hfl⟩ : ∃ fl, fl = x.fields a := ⟨_, rfl⟩
    have hfl6 : fl.length = 6 := by rw [hfl]; unfold Rec.fields; cases x.mac <;> rfl
    have hcell : ∀ i v, fl[i]? = some v → w1.cell? ⟨G, j * 6 + i, none⟩ = some (.int .u16 (v : Nat)) := fun i v hi => hl1.recs j x a hx ha i v (by rw [← hfl]; exact hi)
    have hb3 : w1.heap[w.heap.size]? = some (.cells #[.int .u16 vv, .int .u16 vc, .slice A2 m cap2, .slice (some ⟨G, 0, none⟩) n n] 38 (0, 0)) := by
      rw [hb1.block _ (by have := HS0.out; omega)]; exact HBX.out
    have hx2 : ∃ (j : Nat) (y : Rec), l[j]? = some y ∧ y.id = id ∧ str x.runes = str y.runes := ⟨j, x, hx, hxid, rfl⟩
    have HX := Lib.hid hx2
    rw [← hfl] at hC
    obtain ⟨tx, htx2⟩ : ∃ tx, tx = str x.runes := ⟨_, rfl⟩
    rw [← htx2] at hC HX
    clear hx hxid hpos ha hl1 ha16 htx hxok hfl hj hb1 hbw hx2 htx2
    obtain ⟨p0, p1, p2, p3, p4, p5, rfl⟩ := six_of fl hfl6
    clear hfl6
    have c0 := hcell 0 p0 rfl
    have c1 := hcell 1 p1 rfl
    have c2 := hcell 2 p2 rfl
    have c3 := hcell 3 p3 rfl
    have c4 := hcell 4 p4 rfl
    have c5 := hcell 5 p5 rfl
    rw [Nat.add_zero] at c0
    have e0 : w1.cell? ⟨w.heap.size, 0, none⟩ = some (.int .u16 vv) := by rw [cell_in hb3]; rfl
    have e1 : w1.cell? ⟨w.heap.size, 1, none⟩ = some (.int .u16 vc) := by rw [cell_in hb3]; rfl
    have e2 : w1.cell? ⟨w.heap.size, 2, none⟩ = some (.slice A2 m cap2) := by rw [cell_in hb3]; rfl
    have e3 : w1.cell? ⟨w.heap.size, 3, none⟩ = some (.slice (some ⟨G, 0, none⟩) n n) := by rw [cell_in hb3]; rfl
    clear hcell hb3
    go_wp2_with fail
    clear hm hc2 hid hn10
    go_still_tail 4, (by kernel_rfl)
    go_wp2_with fail
    refine (hC.out _ rfl).mono ?_
    rintro e w2 ⟨rfl, hb2⟩
    have HB2 := Lib.hid hb2
    clear hb2
    go_wp2
    go_ret
    obtain ⟨j', y, h1, h2, h3⟩ := HX.out
    exact ⟨⟨_, rfl, Or.inl ⟨j', y, h1, h2, h3⟩⟩, HBW.out.drew.trans (HB2.out.mono HBW.out.size)⟩
  · have HNO := Lib.hid hno
    clear hno hb1 hbw
    go_wp2
    go_ret
    exact ⟨⟨_, rfl, Or.inr ⟨rfl, HNO.out⟩⟩, HBW.out⟩
end Go.Proofs.Ytdihfcmmnljchaa.Nm
