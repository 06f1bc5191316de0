/- Adding a character to a set, walked. -/
import Derived.Test.YtpmlofllkhpihaaRsIns
namespace Go.Proofs.Ytpmlofllkhpihaa.Rs
open Go Go.RowKit

def Located (Bs base : Nat) (qs : List Page) (l : Nat) (w : World) (e : Ending) (w' : World) : Prop :=
  ∃ g cap, e = .returned (.pointer (some ⟨g, l * 9 + 1, none⟩)) ∧ Holds Bs base qs w' (.slice (some ⟨g, 0, none⟩) qs.length cap) ∧ Below Bs w w'

set_option maxHeartbeats 1000000 in
theorem locate_hit (Bs base n : Nat) (v : Value) (ps : List Page) (ref : Nat) (w : World) (hn : ps.length = n) (hn100 : n ≤ 1000) (hg : Good ps) (hr : Rising ps)
    (hold : Holds Bs base ps w v) (href : ref < 65536) (hh : hit ps ref = true) :
    Calls Try.prog 17 #[.pointer (some ⟨Bs, 0, none⟩), .int .u16 ref] w (Located Bs base ps (lo ps ref) w) := by
  have hl := hit_lt hh
  obtain ⟨A, cap, rfl, hread⟩ := own_reads rfl hold.own
  obtain ⟨g, cap', cur, hv, hgb, hgh, hcap, hmax, hcl, htake⟩ := Row.own_form hold.own (by omega)
  obtain ⟨rfl, _, rfl⟩ := Value.slice.inj hv
  have H := Lib.hid (pos_any _ ps.length cap ps ref w rfl (by omega) hg hr hread href)
  rw [hh, if_pos rfl] at H
  have hc := hold.cell
  have HH := Lib.hid hold
  obtain ⟨l, hlo⟩ : ∃ l, l = lo ps ref := ⟨_, rfl⟩
  rw [← hlo] at H hl ⊢
  rw [hn] at hc H hl hcap
  clear hlo hold hread hgh hv htake hg hr
  go_enter Try.func17, Try.ntmps17
  go_wp2_with fail
  refine H.out.mono ?_
  rintro e w1 ⟨rfl, rfl⟩
  go_wp2
  go_ret
  exact ⟨g, cap, rfl, HH.out, Below.refl _ _⟩

set_option maxHeartbeats 1000000 in
theorem locate_miss (Bs base n : Nat) (v : Value) (ps : List Page) (ref : Nat) (w : World) (hn : ps.length = n) (hn100 : n ≤ 1000) (hg : Good ps) (hr : Rising ps)
    (hold : Holds Bs base ps w v) (href : ref < 65536) (hh : hit ps ref = false) :
    Calls Try.prog 17 #[.pointer (some ⟨Bs, 0, none⟩), .int .u16 ref] w (Located Bs base (ins ps ref) (lo ps ref) w) := by
  have hll := lo_le ps ref
  have hI := Lib.hid (insert_any Bs base n (lo ps ref) v ps ref w hn hn100 hg (by omega) hold href)
  have hins : ps.take (lo ps ref) ++ zeroP ref :: ps.drop (lo ps ref) = ins ps ref := by unfold ins; rw [if_neg (by simp [hh])]
  rw [hins] at hI
  have hlen : (ins ps ref).length = n + 1 := by rw [← hins]; simp; omega
  obtain ⟨A, cap, rfl, hread⟩ := own_reads rfl hold.own
  have H := Lib.hid (pos_any _ ps.length cap ps ref w rfl (by omega) hg hr hread href)
  rw [hh, if_neg (by simp)] at H
  have hc := hold.cell
  obtain ⟨l, hlo⟩ : ∃ l, l = lo ps ref := ⟨_, rfl⟩
  rw [← hlo] at H hI hll ⊢
  generalize ins ps ref = qs at hI hlen ⊢
  clear hlo hold hread hg hr hins hh
  rw [hn] at hc H hll
  go_enter Try.func17, Try.ntmps17
  go_wp2_with fail
  refine H.out.mono ?_
  rintro e w1 ⟨rfl, rfl⟩
  go_wp2_with fail
  refine hI.out.mono ?_
  rintro e w1 ⟨rfl, v', hold', hb⟩
  obtain ⟨g, cap', cur, rfl, hgb, hgh, hcap, hmax, hcl, htake⟩ := Row.own_form hold'.own (by omega)
  have hc2 := hold'.cell
  have HH := Lib.hid hold'
  have HB := Lib.hid hb
  rw [hlen] at hc2
  clear hold' hb hgh htake hcl hc
  go_wp2
  go_ret
  exact ⟨g, cap', rfl, HH.out, HB.out⟩

theorem locate_any (Bs base n : Nat) (v : Value) (ps : List Page) (ref : Nat) (w : World) (hn : ps.length = n) (hn100 : n ≤ 1000) (hg : Good ps) (hr : Rising ps)
    (hold : Holds Bs base ps w v) (href : ref < 65536) :
    Calls Try.prog 17 #[.pointer (some ⟨Bs, 0, none⟩), .int .u16 ref] w (Located Bs base (ins ps ref) (lo ps ref) w) := by
  cases hh : hit ps ref with
  | false => exact locate_miss Bs base n v ps ref w hn hn100 hg hr hold href hh
  | true =>
    have : ins ps ref = ps := by unfold ins; rw [if_pos hh]
    rw [this]
    exact locate_hit Bs base n v ps ref w hn hn100 hg hr hold href hh

set_option maxHeartbeats 1000000 in
theorem add_any (Bs base n : Nat) (v : Value) (ps : List Page) (r : Nat) (w : World) (hn : ps.length = n) (hn100 : n ≤ 1000) (hg : Good ps) (hr : Rising ps)
    (hold : Holds Bs base ps w v) (hrr : r < 1114112) :
    Calls Try.prog 11 #[.pointer (some ⟨Bs, 0, none⟩), .int .i32 r] w fun e w' => e = .returned (.tuple #[]) ∧ After Bs base (add ps r) w w' := by
  have H := locate_any Bs base n v ps (r / 256) w hn hn100 hg hr hold (by omega)
  have e1 : ((r / 256 : Nat) : Int) = (r : Int) / 256 := by omega
  rw [e1] at H
  have H := Lib.hid H
  have hgi : Good (ins ps (r / 256)) := ins_good hg (by omega)
  have hhi := hit_ins hr (r / 256)
  have hl := hit_lt hhi
  rw [ins_lo hr] at hl
  have hb := word_lt hgi (lo ps (r / 256)) (r % 256 / 32)
  have hadd : add ps r = setw (ins ps (r / 256)) (lo ps (r / 256)) (r % 256 / 32) (wordAt (ins ps (r / 256)) (lo ps (r / 256)) (r % 256 / 32) ||| 2 ^ (r % 32)) := rfl
  rw [hadd]
  obtain ⟨l, hlo⟩ : ∃ l, l = lo ps (r / 256) := ⟨_, rfl⟩
  rw [← hlo] at H hl hb ⊢
  generalize ins ps (r / 256) = qs at H hl hb hgi ⊢
  clear hold hg hr hhi hadd hlo hn e1
  have h255 := and_255 r hrr
  have h31 := and_31 r hrr
  have HG := Lib.hid hgi
  clear hgi
  go_enter Try.func11, Try.ntmps11
  go_wp2_with fail
  refine H.out.mono ?_
  rintro e w1 ⟨g, cap, rfl, hold, hbel⟩
  have hlow := hold.low
  have hown := hold.own
  have hc : ∀ j, j < qs.length * 9 → w1.cell? ⟨g, j, none⟩ = (cellsOf qs)[j]? := fun j hj => hown.cellAt j (by omega)
  have hcell := Reads.word HG.out hc hl (k := r % 256 / 32) (by omega)
  have hfr := hown.frozenAt (l * 9 + 1 + r % 256 / 32)
  obtain ⟨b, hbw⟩ : ∃ b, b = wordAt qs l (r % 256 / 32) := ⟨_, rfl⟩
  rw [← hbw] at hcell hb
  have HW := Lib.hid hbw
  clear hbw
  have HH := Lib.hid hold
  have HB := Lib.hid hbel
  clear hold hbel hown hc
  go_wp2
  go_still_tail 8, (by kernel_rfl)
  go_wp2
  go_end0
  have hx : bits .or .u32 (b : Int) (2 ^ (r % 32) % 4294967296) = ((b ||| 2 ^ (r % 32) : Nat) : Int) := by
    rw [pow_mod _ (by omega), or_u32 b _ hb (Nat.pow_lt_pow_right (by decide) (by omega) : 2 ^ (r % 32) < 2 ^ 32)]
  rw [hx, ← HW.out]
  have hh := HH.out
  have hst := hh.own.stored (l * 9 + 1 + r % 256 / 32) (.int .u32 ((b ||| 2 ^ (r % 32) : Nat) : Int))
  rw [cellsOf_setw HG.out _ _ _ hl (by omega)] at hst
  have hgl := hh.own.lt g rfl
  have hlen : (setw qs l (r % 256 / 32) (b ||| 2 ^ (r % 32))).length = qs.length := by unfold setw; rw [List.length_modify]
  have hk : (w1.setCell ⟨g, l * 9 + 1 + r % 256 / 32, none⟩ (.int .u32 ((b ||| 2 ^ (r % 32) : Nat) : Int))).heap[Bs]? = w1.heap[Bs]? := Below.heap_setCell _ _ _ _ (by show Bs ≠ g; omega)
  refine ⟨rfl, .slice (some ⟨g, 0, none⟩) qs.length cap, ⟨(World.cell?_of_block hk).trans hh.cell, (World.frozen?_of_block hk).trans hh.free, ?_, hlow, ?_⟩, ?_⟩
  · rw [hlen]; exact hst.1
  · exact Nat.le_trans hh.size hst.2.size
  · exact (HB.out.setCell (by show Bs ≤ g; omega) _).drew
end Go.Proofs.Ytpmlofllkhpihaa.Rs
