/- Asking a set of characters, walked. -/
import Derived.Test.YtpmlofllkhpihaaRsFind
import Derived.Test.YtpmlofllkhpihaaRsLaw
import Derived.Deep.QuietTactic
import Derived.BigQuiet
import Derived.PlainAid
import Derived.Laws.Bits64
namespace Go.Proofs.Ytpmlofllkhpihaa.Rs
open Go Go.RowKit

theorem ofInt32 (a : Nat) (ha : a < 4294967296) : (BitVec.ofInt 32 (a : Int)).toNat = a := by
  rw [BitVec.ofInt_natCast, BitVec.toNat_ofNat]; exact Nat.mod_eq_of_lt (by omega)
theorem and_i32 (a b : Nat) (ha : a < 2147483648) (hb : b < 2147483648) : bits .and .i32 (a : Int) (b : Int) = ((a &&& b : Nat) : Int) := by
  have hx : a &&& b < 2 ^ 31 := Nat.and_lt_two_pow _ (by omega)
  show IntKind.i32.wrap ((BitVec.ofInt 32 (a : Int) &&& BitVec.ofInt 32 (b : Int)).toNat : Int) = _
  rw [BitVec.toNat_and, ofInt32 a (by omega), ofInt32 b (by omega)]
  simp [IntKind.wrap, IntKind.bits, IntKind.signed]
  omega
theorem and_u32 (a b : Nat) (ha : a < 4294967296) (hb : b < 4294967296) : bits .and .u32 (a : Int) (b : Int) = ((a &&& b : Nat) : Int) := by
  have hx : a &&& b < 2 ^ 32 := Nat.and_lt_two_pow _ (by omega)
  show IntKind.u32.wrap ((BitVec.ofInt 32 (a : Int) &&& BitVec.ofInt 32 (b : Int)).toNat : Int) = _
  rw [BitVec.toNat_and, ofInt32 a ha, ofInt32 b hb, IntKind.wrap_u32']
  omega
theorem or_u32 (a b : Nat) (ha : a < 4294967296) (hb : b < 4294967296) : bits .or .u32 (a : Int) (b : Int) = ((a ||| b : Nat) : Int) := by
  have hx : a ||| b < 2 ^ 32 := Nat.or_lt_two_pow (by omega) (by omega)
  show IntKind.u32.wrap ((BitVec.ofInt 32 (a : Int) ||| BitVec.ofInt 32 (b : Int)).toNat : Int) = _
  rw [BitVec.toNat_or, ofInt32 a ha, ofInt32 b hb, IntKind.wrap_u32']
  omega
theorem and_255 (r : Nat) (h : r < 1114112) : bits .and .i32 (r : Int) 255 = (r : Int) % 256 := by
  have := and_i32 r 255 (by omega) (by omega)
  rw [show ((255 : Nat) : Int) = 255 from rfl] at this
  rw [this, show (255 : Nat) = 2 ^ 8 - 1 from rfl, Nat.and_two_pow_sub_one_eq_mod]
  omega
theorem and_31 (r : Nat) (h : r < 1114112) : bits .and .i32 (r : Int) 31 = (r : Int) % 32 := by
  have := and_i32 r 31 (by omega) (by omega)
  rw [show ((31 : Nat) : Int) = 31 from rfl] at this
  rw [this, show (31 : Nat) = 2 ^ 5 - 1 from rfl, Nat.and_two_pow_sub_one_eq_mod]
  omega

theorem Reads.word {w : World} {g : Nat} {ps : List Page} (hg : Good ps) (h : ∀ j, j < ps.length * 9 → w.cell? ⟨g, j, none⟩ = (cellsOf ps)[j]?) {i k : Nat} (hi : i < ps.length) (hk : k < 8) :
    w.cell? ⟨g, i * 9 + 1 + k, none⟩ = some (.int .u32 (wordAt ps i k : Nat)) := by
  have hp := List.getElem?_eq_getElem hi
  have hl := (hg _ (List.mem_of_getElem? hp)).1
  rw [h _ (by omega), Nat.add_assoc, cellsOf_get hg i (1 + k) _ hp (by omega), Nat.add_comm 1 k]
  simp [Page.cells, wordAt, List.getElem?_eq_getElem hi, List.getElem?_eq_getElem (show k < ps[i].bits.length by omega), List.getD]
theorem hit_lt {ps : List Page} {ref : Nat} (hh : hit ps ref = true) : lo ps ref < ps.length := by
  unfold hit at hh
  cases hp : ps[lo ps ref]? with
  | none => rw [hp] at hh; simp at hh
  | some p => exact (List.getElem?_eq_some_iff.1 hp).1

/-- Nothing has turned but for draws of the tape. -/
def Drew (w w' : World) : Prop := ∃ k, w' = w.drewN k
theorem ret_bool {a b : Bool} (h : a = b) : Ending.returned (.bool a) = .returned (.bool b) := by rw [h]
theorem pow_mod (k : Nat) (hk : k < 32) : ((2 : Int) ^ k % 4294967296) = ((2 ^ k : Nat) : Int) := by
  have h : 2 ^ k < 2 ^ 32 := Nat.pow_lt_pow_right (by decide) hk
  have e : ((2 : Int) ^ k) = ((2 ^ k : Nat) : Int) := by simp
  rw [e]
  exact Int.emod_eq_of_lt (Int.natCast_nonneg _) (Int.ofNat_lt.2 h)
theorem and_pow_zero (b k : Nat) : (b &&& 2 ^ k = 0) ↔ b.testBit k = false := by
  constructor
  · intro h
    have : (b &&& 2 ^ k).testBit k = false := by rw [h]; simp
    rw [Nat.testBit_and, Nat.testBit_two_pow_self, Bool.and_true] at this
    exact this
  · intro h
    apply Nat.eq_of_testBit_eq
    intro j
    rw [Nat.testBit_and, Nat.testBit_two_pow, Nat.zero_testBit]
    by_cases hj : k = j
    · subst hj; rw [h]; rfl
    · have : decide (k = j) = false := by simpa using hj
      rw [this, Bool.and_false]
theorem bit_ne (b k : Nat) (hb : b < 4294967296) (hk : k < 32) : (bits .and .u32 (b : Int) ((2 : Int) ^ k % 4294967296) != 0) = b.testBit k := by
  have h : 2 ^ k < 2 ^ 32 := Nat.pow_lt_pow_right (by decide) hk
  rw [pow_mod k hk, and_u32 b (2 ^ k) hb (by omega)]
  rw [Bool.eq_iff_iff, bne_iff_ne]
  have e := and_pow_zero b k
  constructor
  · intro hne
    cases ht : b.testBit k with
    | true => rfl
    | false => exact absurd (by rw [e.2 ht]; rfl) hne
  · intro ht hz
    have : b &&& 2 ^ k = 0 := by omega
    rw [e.1 this] at ht
    cases ht
theorem miss_mem {ps : List Page} {r : Nat} (hh : hit ps (r / 256) = false) : mem ps r = false := by
  unfold mem
  unfold hit at hh
  cases hp : ps[lo ps (r / 256)]? with
  | none => rfl
  | some p =>
    rw [hp] at hh
    simp at hh
    simp [hh]

set_option maxHeartbeats 1000000 in
theorem contains_hit (g n cap : Nat) (ps : List Page) (r : Nat) (w : World) (hn : ps.length = n) (hn100 : n ≤ 1000) (hg : Good ps) (hr : Rising ps) (hread : Reads w (some ⟨g, 0, none⟩) ps) (hrr : r < 1114112) (hh : hit ps (r / 256) = true) :
    Calls Try.prog 12 #[.slice (some ⟨g, 0, none⟩) n cap, .int .i32 r] w fun e w' => e = .returned (.bool (mem ps r)) ∧ Drew w w' := by
  have H := page_any_hit g n cap ps (r / 256) w hn hn100 hg hr hread (by omega) hh
  have e1 : ((r / 256 : Nat) : Int) = (r : Int) / 256 := by omega
  rw [e1] at H
  have H := Lib.hid H
  clear e1
  have hl := hit_lt hh
  obtain ⟨g', hg', hc⟩ := hread (by omega)
  cases hg'
  have hcell := Reads.word hg hc hl (k := r % 256 / 32) (by omega)
  have hw := hit_word hh r rfl
  have hb := word_lt hg (lo ps (r / 256)) (r % 256 / 32)
  obtain ⟨l, hlo⟩ : ∃ l, l = lo ps (r / 256) := ⟨_, rfl⟩
  rw [← hlo] at H hcell hw hb
  obtain ⟨b, hbw⟩ : ∃ b, b = wordAt ps l (r % 256 / 32) := ⟨_, rfl⟩
  rw [← hbw] at hcell hw hb
  have HW := Lib.hid hw
  clear hlo hbw hw hc hl hread
  go_enter Try.func12, Try.ntmps12
  go_wp2_with fail
  refine H.out.mono ?_
  rintro e w1 ⟨rfl, rfl⟩
  go_wp2
  have h255 := and_255 r hrr
  have h31 := and_31 r hrr
  go_quiet (fail)
  go_wp2
  go_ret
  exact ⟨ret_bool (by rw [HW.out]; exact bit_ne b _ hb (by omega)), ⟨_, rfl⟩⟩

theorem contains_miss (A : Option Addr) (n cap : Nat) (ps : List Page) (r : Nat) (w : World) (hn : ps.length = n) (hn100 : n ≤ 1000) (hg : Good ps) (hr : Rising ps) (hread : Reads w A ps) (hrr : r < 1114112) (hh : hit ps (r / 256) = false) :
    Calls Try.prog 12 #[.slice A n cap, .int .i32 r] w fun e w' => e = .returned (.bool (mem ps r)) ∧ Drew w w' := by
  have H := page_any_miss A n cap ps (r / 256) w hn hn100 hg hr hread (by omega) hh
  have e1 : ((r / 256 : Nat) : Int) = (r : Int) / 256 := by omega
  rw [e1] at H
  have H := Lib.hid H
  have HM := Lib.hid (miss_mem hh)
  clear e1 hg hr hread hh
  go_enter Try.func12, Try.ntmps12
  go_wp2_with fail
  refine H.out.mono ?_
  rintro e w1 ⟨rfl, rfl⟩
  go_wp2
  go_ret
  exact ⟨ret_bool HM.out.symm, ⟨0, rfl⟩⟩
end Go.Proofs.Ytpmlofllkhpihaa.Rs
