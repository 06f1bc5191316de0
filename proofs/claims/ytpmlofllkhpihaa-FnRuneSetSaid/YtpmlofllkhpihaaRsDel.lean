/- Taking a character away from a set, walked. -/
import Derived.Test.YtpmlofllkhpihaaRsOps
import Derived.StillTailTactics
namespace Go.Proofs.Ytpmlofllkhpihaa.Rs
open Go Go.RowKit

theorem own_reads {w : World} {base n : Nat} {v : Value} {ps : List Page} (hn : ps.length = n) (h : w.ownsRow base 55 9 v n (cellsOf ps)) : ∃ A cap, v = .slice A n cap ∧ Reads w A ps := by
  rcases h.2 with ⟨rfl, rfl⟩ | ⟨g, cap, cur, rfl, _⟩
  · exact ⟨none, 0, rfl, fun h0 => by omega⟩
  · refine ⟨_, cap, rfl, fun _ => ⟨g, rfl, fun j hj => h.cellAt j (by omega)⟩⟩

/-- What a store in the row leaves. -/
structure Turned (base : Nat) (v : Value) (n : Nat) (qs : List Page) (w w' : World) : Prop where
  own : w'.ownsRow base 55 9 v n (cellsOf qs)
  grown : w.grownBy w' v.ownBlock

theorem xor_u32 (a b : Nat) (ha : a < 4294967296) (hb : b < 4294967296) : bits .xor .u32 (a : Int) (b : Int) = ((a ^^^ b : Nat) : Int) := by
  have hx : a ^^^ b < 2 ^ 32 := Nat.xor_lt_two_pow (by omega) (by omega)
  show IntKind.u32.wrap ((BitVec.ofInt 32 (a : Int) ^^^ BitVec.ofInt 32 (b : Int)).toNat : Int) = _
  rw [BitVec.toNat_xor, ofInt32 a ha, ofInt32 b hb, IntKind.wrap_u32']
  omega
theorem clr_eq (b k : Nat) (hb : b < 4294967296) (hk : k < 32) : bits .and .u32 (b : Int) (bits .xor .u32 IntKind.u32.max ((2 : Int) ^ k % 4294967296)) = ((clr b k : Nat) : Int) := by
  have h : 2 ^ k < 2 ^ 32 := Nat.pow_lt_pow_right (by decide) hk
  have e : ∀ k, k < 32 → 4294967295 ^^^ 2 ^ k = 4294967295 - 2 ^ k := by decide +kernel
  have hm : IntKind.u32.max = ((4294967295 : Nat) : Int) := rfl
  rw [pow_mod k hk, hm, xor_u32 4294967295 (2 ^ k) (by omega) (by omega), e k hk, and_u32 b _ hb (Nat.lt_of_le_of_lt (Nat.sub_le _ _) (by decide))]
  rfl

set_option maxHeartbeats 1000000 in
theorem del_hit (base g n cap : Nat) (ps : List Page) (r : Nat) (w : World) (hn : ps.length = n) (hn100 : n ≤ 1000) (hg : Good ps) (hr : Rising ps) (hown : w.ownsRow base 55 9 (.slice (some ⟨g, 0, none⟩) n cap) n (cellsOf ps)) (hrr : r < 1114112) (hh : hit ps (r / 256) = true) :
    Calls Try.prog 10 #[.slice (some ⟨g, 0, none⟩) n cap, .int .i32 r] w fun e w' => e = .returned (.tuple #[]) ∧ Turned base (.slice (some ⟨g, 0, none⟩) n cap) n (del ps r) w w' := by
  have hc : ∀ j, j < ps.length * 9 → w.cell? ⟨g, j, none⟩ = (cellsOf ps)[j]? := fun j hj => hown.cellAt j (by omega)
  have H := page_any_hit g n cap ps (r / 256) w hn hn100 hg hr (fun _ => ⟨g, rfl, hc⟩) (by omega) hh
  have e1 : ((r / 256 : Nat) : Int) = (r : Int) / 256 := by omega
  rw [e1] at H
  have H := Lib.hid H
  clear e1
  have hl := hit_lt hh
  have hcell := Reads.word hg hc hl (k := r % 256 / 32) (by omega)
  have hfr := hown.frozenAt (lo ps (r / 256) * 9 + 1 + r % 256 / 32)
  have hb := word_lt hg (lo ps (r / 256)) (r % 256 / 32)
  have hst := fun W (hW : World.ownsRow W base 55 9 (.slice (some ⟨g, 0, none⟩) n cap) n (cellsOf ps)) => hW.stored (lo ps (r / 256) * 9 + 1 + r % 256 / 32) (.int .u32 (clr (wordAt ps (lo ps (r / 256)) (r % 256 / 32)) (r % 32) : Nat))
  rw [cellsOf_setw hg _ _ _ hl (by omega)] at hst
  have hdel : setw ps (lo ps (r / 256)) (r % 256 / 32) (clr (wordAt ps (lo ps (r / 256)) (r % 256 / 32)) (r % 32)) = del ps r := by unfold del; rw [if_pos hh]
  rw [hdel] at hst
  obtain ⟨l, hlo⟩ : ∃ l, l = lo ps (r / 256) := ⟨_, rfl⟩
  rw [← hlo] at H hcell hst hb hfr
  obtain ⟨b, hbw⟩ : ∃ b, b = wordAt ps l (r % 256 / 32) := ⟨_, rfl⟩
  rw [← hbw] at hcell hst hb
  have HS := Lib.hid hst
  have HO := Lib.hid hown
  clear hlo hbw hst hc hl hdel hown
  have h255 := and_255 r hrr
  have h31 := and_31 r hrr
  go_enter Try.func10, Try.ntmps10
  go_wp2_with fail
  refine H.out.mono ?_
  rintro e w1 ⟨rfl, rfl⟩
  go_wp2
  go_still_tail 9, (by kernel_rfl)
  go_wp2
  go_end0
  refine ⟨rfl, ?_⟩
  rw [clr_eq b _ hb (by omega)]
  exact ⟨(HS.out w HO.out).1, ⟨rfl, rfl, rfl, (HS.out w HO.out).2.size, (HS.out w HO.out).2.block⟩⟩

theorem del_miss (A : Option Addr) (n cap : Nat) (ps : List Page) (r : Nat) (w : World) (hn : ps.length = n) (hn100 : n ≤ 1000) (hg : Good ps) (hr : Rising ps) (hread : Reads w A ps) (hrr : r < 1114112) (hh : hit ps (r / 256) = false) :
    Calls Try.prog 10 #[.slice A n cap, .int .i32 r] w fun e w' => e = .returned (.tuple #[]) ∧ w = w' := by
  have H := page_any_miss A n cap ps (r / 256) w hn hn100 hg hr hread (by omega) hh
  have e1 : ((r / 256 : Nat) : Int) = (r : Int) / 256 := by omega
  rw [e1] at H
  have H := Lib.hid H
  clear e1 hg hr hread hh
  go_enter Try.func10, Try.ntmps10
  go_wp2_with fail
  refine H.out.mono ?_
  rintro e w1 ⟨rfl, rfl⟩
  go_wp2
  exact bodyPost_ret (results_none rfl _ _ _) rfl ⟨rfl, rfl⟩
end Go.Proofs.Ytpmlofllkhpihaa.Rs
