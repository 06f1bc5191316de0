/- The advances of glyphs, walked. -/
import Derived.Test.YtgggpllmgnpngaaGreatDoorTbName
namespace Go.Proofs.YtgggpllmgnpngaaGreatDoor.Tb
open Go Go.RowKit

/-- A row of small numbers. -/
def IntsAt (G n : Nat) (w : World) : Prop := G < w.heap.size ∧ ∀ j, j < n → ∃ x : Int, (-1000000 < x ∧ x < 1000000) ∧ w.cell? ⟨G, j, none⟩ = some (.int .i64 x)
theorem IntsAt.later {G n : Nat} {w w' : World} (h : IntsAt G n w) (k : Below w.heap.size w w') : IntsAt G n w' :=
  ⟨Nat.lt_of_lt_of_le h.1 k.size, fun j hj => by obtain ⟨x, h1, h2⟩ := h.2 j hj; exact ⟨x, h1, below_cell k h2⟩⟩

def adv (k : Nat) : Nat := if k = 0 then 0 else 2 * k + 2

set_option maxRecDepth 1000000 in
set_option maxHeartbeats 2000000 in
theorem long16_any (G n cap : Nat) (w : World) (hn : 0 < n) (hn2 : n ≤ 40) (hl : IntsAt G n w) : Calls Tryz.prog 18 #[.slice (some ⟨G, 0, none⟩) n cap, .int .i64 1] w (NewBytes (2 * n + 2) w) := by
  have HL := Lib.hid hl
  have hst := Lib.hid (tabn_start w (Below.refl _ _))
  clear hl
  go_enter Tryz.func18, Tryz.ntmps18
  go_wp2_with fail
  go_loopg [12] (n) (fun gk iv W => ∃ k : Nat, k ≤ n ∧ gk = n - k ∧ iv = .int .i64 k ∧ TabN w.heap.size (adv k) w W)
  case atStart => exact ⟨0, Nat.zero_le _, rfl, rfl, hst.out⟩
  case round =>
    obtain ⟨k, hk, hgk, rfl, ht⟩ := hrel
    obtain ⟨wo, rfl⟩ : ∃ wo : World, wo = wr := ⟨_, rfl⟩
    have HK := Lib.hid hgk
    have HT := Lib.hid ht
    by_cases hlt : k < n
    · obtain ⟨x, hx, hcell⟩ := HL.out.2 k hlt
      have c0 := below_cell ht.below hcell
      have kk : (k : Int) < n := by omega
      clear hgk ht hcell
      cases k with
      | zero =>
        have hS := Lib.hid (short_n w.heap.size 0 2 w wo [.int .i64 x, .int .i64 0] [x, 0] rfl rfl (by omega) (by intro y hy; simp at hy; omega) (by omega) HT.out)
        have k1 : (0 : Int) < 1 := by omega
        go_wp2_with fail
        with_reducible refine hS.out.mono ?_
        rintro e w2 ⟨rfl, ht⟩
        have HT2 := Lib.hid ht
        clear ht hS c0
        go_wp2_with fail
        go_roundg (n - 1)
        case measure => have := HK.out; omega
        case rel => exact ⟨1, by omega, rfl, rfl, HT2.out⟩
      | succ k =>
        have hS := Lib.hid (short_n w.heap.size (adv (k + 1)) 1 w wo [.int .i64 0] [0] rfl rfl (by omega) (by intro y hy; simp at hy; omega) (by unfold adv; split <;> omega) HT.out)
        have k1 : ¬ ((k : Int) + 1 < 1) := by omega
        go_wp2_with fail
        with_reducible refine hS.out.mono ?_
        rintro e w2 ⟨rfl, ht⟩
        have HT2 := Lib.hid ht
        clear ht hS c0
        go_wp2_with fail
        go_roundg (n - (k + 2))
        case measure => have := HK.out; omega
        case rel => exact ⟨k + 2, by omega, rfl, by go_num, by
          have h := HT2.out
          rwa [show adv (k + 1) + 2 * 1 = adv (k + 2) by unfold adv; simp; omega] at h⟩
    · have hkn : k = n := by omega
      subst hkn
      obtain ⟨h0, v, bs, h1, h2, h3, h4⟩ := ht
      have hc := h3.cell
      have hown := h3.own
      have e : adv k = 2 * k + 2 := by unfold adv; rw [if_neg (by omega)]
      rw [h1, e] at hown
      have HP := Lib.hid (show NewBytes (2 * k + 2) w (.returned v) wo from ⟨⟨v, rfl, bs, by rw [h1, e], h2, own_mono hown (by omega)⟩, h4⟩)
      clear h0 h1 h2 h3 h4 hown hgk e
      go_wp2_with fail
      go_ret
      exact HP.out
end Go.Proofs.YtgggpllmgnpngaaGreatDoor.Tb
