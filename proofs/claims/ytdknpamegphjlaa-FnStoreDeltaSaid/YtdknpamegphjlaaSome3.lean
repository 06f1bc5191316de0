/- A store of variations made of what came in, walked. -/
import Derived.Test.YtdknpamegphjlaaSome2
import Derived.Deep.RegionLaw
namespace Go.Proofs.Ytdknpamegphjlaa.Sd
open Go Go.RowKit

set_option maxRecDepth 1000000 in
set_option maxHeartbeats 8000000 in
theorem some_full (n0 n1 n2 n3 c0 c1 c2 c3 ax : Nat) (A0 A1 A2 A3 : Option Addr) (w : World) (h0 : n0 ≤ 9223372036854775807) (h1 : n1 ≤ 9223372036854775807) (h2 : n2 ≤ 9223372036854775807) (h3 : n3 ≤ 9223372036854775807)
    (hax : ax = min n3 3) (z0 : 0 < n0) (z1 : 0 < n1) (z2 : 0 < n2) (z3 : 0 < ax)
    (i0 : InAll In3 w A0 n0) (i1 : InAll InU8 w A1 n1) (i2 : InAll InI16 w A2 n2) (i3 : InI16 w A3 n3) (hc3 : n3 ≤ c3) (hc3b : c3 ≤ 9223372036854775807) :
    Calls Try.prog 7 #[.slice A0 n0 c0, .slice A1 n1 c1, .slice A2 n2 c2, .slice A3 n3 c3] w (Stored w) := by
  obtain ⟨t47, j47, j47z, j47a, j47b⟩ := info_parts info47
  obtain ⟨t48, j48, j48z, j48a, j48b⟩ := info_parts info48
  have I0 := Lib.hid i0
  have I1 := Lib.hid i1
  have I2 := Lib.hid i2
  have I3 := Lib.hid i3
  have k0 : (if (3 : Int) < (n3 : Int) then (3 : Int) else (n3 : Int)) = (ax : Int) := by split <;> omega
  have hax3 : ax ≤ 3 := by omega
  have HAX := Lib.hid hax
  have d0 : ((n0 : Int) == 0) = false := by rw [beq_eq_false_iff_ne]; omega
  have d1 : ((ax : Int) == 0) = false := by rw [beq_eq_false_iff_ne]; omega
  have d2 : ((n1 : Int) == 0) = false := by rw [beq_eq_false_iff_ne]; omega
  have d3 : ((n2 : Int) == 0) = false := by rw [beq_eq_false_iff_ne]; omega
  clear i0 i1 i2 i3 hax
  go_enter Try.func7, Try.ntmps7
  go_upto_block 0 with fail
  clear d0 d1 d2 d3 k0
  go_cut [12, 8] (fun iv av W => ∃ (i : Nat) (all : List (List Ax)) (vs : List Value), 0 < i ∧ i ≤ 6 ∧ Alls w W av all vs i ax)
  case rest =>
    obtain ⟨i, all, vs, hi0, hi6, hal⟩ := hcut
    obtain ⟨wb, rfl⟩ : ∃ wb : World, wb = wc := ⟨_, rfl⟩
    have HAL := Lib.hid hal
    obtain ⟨AA, acap, hu8⟩ := own_slice hal.grows.own
    rw [hal.len] at hu8
    subst hu8
    have hsb := hal.below.size
    obtain ⟨m, hm⟩ : ∃ m, m = min n2 5 := ⟨_, rfl⟩
    have hm5 : m ≤ 5 := by omega
    have hm0 : 0 < m := by omega
    have hm2 : m ≤ n2 := by omega
    have HM := Lib.hid hm
    clear hal hm
    go_upto_block 4 with fail
    go_cut [15, 9] (fun iv lv W => ∃ (j : Nat) (l : List Dl) (cs : List Value), 0 < j ∧ j ≤ 4 ∧ Lists wb W lv l cs j i m)
    case rest =>
      obtain ⟨j, l, cs, hj0, hj4, hls⟩ := hcut
      obtain ⟨wd, rfl⟩ : ∃ wd : World, wd = wc := ⟨_, rfl⟩
      have HLS := Lib.hid hls
      obtain ⟨LA, lcap, hu9⟩ := own_slice hls.own
      subst hu9
      obtain ⟨b3, off3, rfl, hc3⟩ := I3.out (by have := HAX.out; omega)
      have HC3 := Lib.hid hc3
      have kax : (ax : Int) ≤ n3 := by have := HAX.out; omega
      have kax2 : ax ≤ n3 := by omega
      have hsd := hls.below.size
      have kcap : (ax : Int) ≤ c3 := by omega
      clear hls hc3
      go_wp2_with fail
      go_loopg [152, 10] (ax) (fun gk kv tv W => ∃ (k : Nat) (at_ : List Int), gk = ax - k ∧ k ≤ ax ∧ kv = .int .i64 k ∧ at_.length = k ∧ (∀ x ∈ at_, -16384 ≤ x ∧ x ≤ 16384) ∧ W.ownsRow wd.heap.size 3 1 tv k (intCells at_) ∧ Below wd.heap.size wd W)
      case atStart => exact ⟨0, [], rfl, Nat.zero_le _, rfl, rfl, by simp, World.ownsRow_nil _ _ _ _, Below.refl _ _⟩
      case round =>
        obtain ⟨k, at_, hgk, hkx, rfl, hat_, haf, hown, hbel⟩ := hrel
        have HK := Lib.hid hgk
        have HAT := Lib.hid hat_
        have HAF := Lib.hid haf
        have HOWN := Lib.hid hown
        have HB := Lib.hid hbel
        have hsr := hbel.size
        by_cases hlt : k < ax
        · have kk : (k : Int) < ax := by omega
          obtain ⟨x, hx, hcell⟩ := HC3.out k (by omega)
          have hb : Below w.heap.size w wr := (HAL.out.below.trans (HLS.out.below.mono hsb)).trans (hbel.mono (by omega))
          have c0 := below_cell hb hcell
          have hC := Lib.hid (coord_any x wr hx)
          have hcr := crd_in x
          obtain ⟨y, hy⟩ : ∃ y, y = crd x := ⟨_, rfl⟩
          rw [← hy] at hC hcr
          clear hgk hat_ haf hown hbel hx hcell hb hy
          go_wp2_with fail
          refine hC.out.mono ?_
          rintro e w2 ⟨rfl, hw2⟩
          subst hw2
          have hown2 := HOWN.out
          obtain ⟨t3, j3, j3z, j3a, j3b⟩ := info_parts info3
          clear c0
          go_wp2_with (at_builtin; go_must (refine wpList_append_lies _ rfl (.tmp 156) (.tmp 159) 32 rfl wd.heap.size 3 t3 _ 1 8 Try.underlying32 j3 j3z j3a j3b rfl (by decide) u10 k (intCells at_) rfl (hown2.alloc _) ⟨wr.heap.size, 0, none⟩ 1 1 [.int .i64 y] rfl rfl (cells_new wr [.int .i64 y] 3) (ints_oneCell .i64 [_]) (by omega) ?_ ?_ ?_ (wr.heap.size + 1) (by simp) ?_))
          · unfold maxLen; omega
          · omega
          · rw [World.size_alloc]; omega
          intro g gcap w3 hown3 hgrow _ _
          have HN := Lib.hid (And.intro hown3 ((HB.out.alloc hsr (.cells #[.int .i64 y] 3)).grown hgrow (by rw [World.size_alloc]; omega) (fun b hb => (hown2.lt b hb).1)))
          clear hown2 hown3 hgrow
          go_wp2_with fail
          go_roundg (ax - (k + 1))
          case measure => have := HK.out; omega
          case rel => exact ⟨k + 1, at_ ++ [y], rfl, by omega, by go_num, by have := HAT.out; simp; omega, all_snoc HAF.out hcr, by rw [intCells_snoc]; exact HN.out.1, HN.out.2⟩
        · have hk : k = ax := by omega
          subst hk
          have kk : ¬ (k : Int) < k := by omega
          have hS : Stored w (.returned (.tuple #[.slice AA i acap, .slice LA j lcap, u10])) wr := by
            have hbel2 : Below wb.heap.size wb wr := HLS.out.below.trans (hbel.mono hsd)
            refine ⟨all, l, at_, _, _, _, rfl, ?_, ?_, ?_, .inr ⟨k, m, ⟨z3, hax3⟩, ⟨hat_, haf⟩, ⟨by rw [HAL.out.len]; exact hi0, by rw [HAL.out.len]; exact hi6, HAL.out.fit⟩, ⟨hm0, hm5⟩, ⟨by rw [HLS.out.len]; exact hj0, by rw [HLS.out.len]; exact hj4, ?_⟩⟩, HAL.out.below.trans (hbel2.mono hsb)⟩
            · exact good_regs.kept ((HAL.out.grows).rows good_axes (S := None') (fun _ _ h => h.elim) (fun _ _ h => h)) (kept_of_below hbel2) (fun _ _ h => h.elim)
            · refine good_dls.kept (S := None') (S1 := fun _ => False) (w := wd) ?_ (kept_of_below hbel) (fun _ _ h => h.elim)
              have ho := HLS.out.own
              have hr := row_of_own (S := None') ho (fun _ _ h => h)
              refine ⟨cs, by rw [HLS.out.len]; exact hr, fun q x hq => ?_⟩
              obtain ⟨r, t, e1, e2, h1, h2⟩ := HLS.out.each q x hq
              exact ⟨r, t, e1, e2, good_ints.sub h1 (fun _ _ h => h.elim), good_grid.sub h2 (fun _ _ h => h.elim)⟩
            · have := row_of_own (S := None') hown (fun _ _ h => h)
              rw [← hat_] at this
              exact this
            · intro d hd
              obtain ⟨f1, f2, f3, f4⟩ := HLS.out.fit d hd
              exact ⟨f1, by rw [HAL.out.len]; exact f2, f3, f4⟩
          have HS := Lib.hid hS
          clear hgk hat_ haf hown hbel hS
          go_wp2_with fail
          go_ret3
          exact HS.out
    case first =>
      go_wp2_with fail
      go_loopg [15, 9] (n1) (fun gk iv lv W => ∃ (j : Nat) (l : List Dl) (cs : List Value), gk = n1 - j ∧ j ≤ n1 ∧ j ≤ 4 ∧ iv = .int .i64 j ∧ Lists wb W lv l cs j i m)
      case atStart => exact ⟨0, [], [], rfl, Nat.zero_le _, by omega, rfl, Lists.nil _ _ _⟩
      case round =>
        obtain ⟨j, l, cs, hgk, hjn, hj4, rfl, hls⟩ := hrel
        obtain ⟨wo, rfl⟩ : ∃ wo : World, wo = wr := ⟨_, rfl⟩
        have HK := Lib.hid hgk
        have HLS := Lib.hid hls
        have hbwo : Below w.heap.size w wo := HAL.out.below.trans (hls.below.mono hsb)
        have HBWO := Lib.hid hbwo
        have hswo := hls.below.size
        clear hgk hls hbwo
        by_cases hlt : j < n1 ∧ j < 4
        · obtain ⟨hlt1, hlt2⟩ := hlt
          have kj : (j : Int) < n1 := by omega
          have kj4 : (j : Int) < 4 := by omega
          go_upto_block 6 with fail
          go_cut [17] (fun kv W => ∃ (rv : Value) (rl : List Int) (k : Nat), k ≤ 5 ∧ XR wo W wo.heap.size rv rl i k)
          case rest =>
            obtain ⟨rv, rl, k, hk5, hxr⟩ := hcut
            have hrv5 : rl.length ≤ 5 := by rw [hxr.len]; exact hk5
            have HXT0 := Lib.hid hxr.items
            have HRF := Lib.hid hxr.fit
            obtain ⟨RA, rcap, hrv⟩ := own_slice hxr.own
            rw [← hxr.len] at hrv
            subst hrv
            obtain ⟨rn, hrn⟩ : ∃ rn, rn = rl.length := ⟨_, rfl⟩
            rw [← hrn] at hrv5
            have HRN := Lib.hid hrn
            clear hxr hrn
            go_upto_block 8 with fail
            go_cut [18] (fun kv W => ∃ (tv : Value) (items : List (List Int)) (vs2 : List Value), XT wo W wo.heap.size (.slice RA rl.length rcap) tv rl items vs2 m)
            case rest =>
              obtain ⟨tv, items, vs2, hxt⟩ := hcut
              have x0 := hxt.c0
              have x1 := hxt.c1
              have hXT := Lib.hid hxt
              have hsx := hxt.size
              have hown := own_block HLS.out.own (fun b hb => hxt.below.block b (HLS.out.own.lt b hb).2)
              have hgl := hxt.grows.own
              rw [hxt.len] at hgl
              obtain ⟨TA, tcap, rfl⟩ := own_slice hgl
              obtain ⟨t37, j37, j37z, j37a, j37b⟩ := info_parts info37
              have hLB : wb.heap.size ≤ wc.heap.size := by omega
              have hRL : ∀ k ∈ rl, 0 ≤ k ∧ k < (i : Int) := HRF.out
              have HRL := Lib.hid hRL
              have HR5 : rl.length ≤ 5 := by rw [← HRN.out]; exact hrv5
              clear hxt hgl hRL
              go_wp2_with (at_builtin; go_must (refine wpList_append_lies _ rfl (.tmp 144) (.tmp 146) 31 rfl wb.heap.size 37 t37 _ 2 48 Try.underlying31 j37 j37z j37a j37b rfl (by decide) u9 j cs rfl (hown.alloc _) ⟨wc.heap.size, 0, none⟩ 1 1 [.slice RA rl.length rcap, .slice TA m tcap] rfl rfl (cells_new wc [.slice RA rl.length rcap, .slice TA m tcap] 37) (fun y hy => by simp at hy; rcases hy with rfl | rfl <;> rfl) (by omega) ?_ ?_ ?_ (wc.heap.size + 1) (by simp) ?_))
              · unfold maxLen; omega
              · omega
              · rw [World.size_alloc]; omega
              intro g gcap w3 hown3 hgrow hat _
              have HN := Lib.hid (HLS.out.snoc hXT.out HR5 HRL.out rfl hgrow hown3 hat)
              clear hown hown3 hgrow hat x0 x1
              go_wp2_with fail
              go_roundg (n1 - (j + 1))
              case measure => have := HK.out; omega
              case rel => exact ⟨j + 1, l ++ [⟨rl, items⟩], _, rfl, by omega, by omega, by go_num, HN.out⟩
            case first =>
              go_wp2_with fail
              go_loopg [18] (n2) (fun gk iv W => ∃ (p : Nat) (tv : Value) (items : List (List Int)) (vs2 : List Value), gk = n2 - p ∧ p ≤ n2 ∧ p ≤ 5 ∧ iv = .int .i64 p ∧ XT wo W wo.heap.size (.slice RA rl.length rcap) tv rl items vs2 p)
              case atStart => exact ⟨0, _, [], [], rfl, Nat.zero_le _, by omega, rfl, HXT0.out⟩
              case round =>
                obtain ⟨p, tv, items, vs2, hgk, hpn, hp5, rfl, hxt⟩ := hrel
                obtain ⟨wp, rfl⟩ : ∃ wp : World, wp = wr := ⟨_, rfl⟩
                have HK2 := Lib.hid hgk
                have HXT := Lib.hid hxt
                have hsx := hxt.size
                by_cases hlt : p < n2 ∧ p < 5
                · obtain ⟨hp1, hp2⟩ := hlt
                  have kp1 : (p : Int) < n2 := by omega
                  have kp2 : (p : Int) < 5 := by omega
                  have x0 := hxt.c0
                  rw [← HRN.out] at x0
                  clear hgk hxt
                  go_wp2_with fail
                  go_loopg [123, 19] (rn) (fun gk qv rowv W => ∃ (q : Nat) (row : List Int), gk = rn - q ∧ q ≤ rn ∧ qv = .int .i64 q ∧ row.length = q ∧ (∀ x ∈ row, -32768 ≤ x ∧ x ≤ 32767) ∧ W.ownsRow wp.heap.size 3 1 rowv q (intCells row) ∧ Below wp.heap.size wp W)
                  case atStart => exact ⟨0, [], rfl, Nat.zero_le _, rfl, rfl, by simp, World.ownsRow_nil _ _ _ _, Below.refl _ _⟩
                  case round =>
                    obtain ⟨q, row, hgk, hqr, rfl, hrow, hrf, hown, hbel⟩ := hrel
                    have HK3 := Lib.hid hgk
                    have HROW := Lib.hid hrow
                    have HRFF := Lib.hid hrf
                    have HOWN := Lib.hid hown
                    have HB3 := Lib.hid hbel
                    by_cases hlt : q < rn
                    · have kq : (q : Int) < rn := by omega
                      obtain ⟨b2, off2, rfl, hc2⟩ := I2.out z2
                      obtain ⟨A', n', c', hn', hcell, hin⟩ := hc2 p hp1
                      have hb : Below w.heap.size w wr := (HBWO.out.trans (HXT.out.below.mono (by omega))).trans (hbel.mono (by omega))
                      have c0 := below_cell hb hcell
                      have hN := Lib.hid (nth_any n' c' (q + j) A' wr hn' (by omega) (old_i16 hin hb))
                      have k7 : ((q + j : Nat) : Int) = (q : Int) + j := by omega
                      rw [k7] at hN
                      have hsb3 := hbel.size
                      clear hgk hrow hrf hown hbel hc2 hcell hin hb k7
                      go_wp2_with fail
                      refine hN.out.mono ?_
                      rintro e w2 ⟨⟨x, rfl, hx⟩, hw2⟩
                      subst hw2
                      have HX := Lib.hid hx
                      have hown2 := HOWN.out
                      obtain ⟨t3, j3, j3z, j3a, j3b⟩ := info_parts info3
                      clear hx c0
                      go_wp2_with (at_builtin; go_must (refine wpList_append_lies _ rfl (.tmp 126) (.tmp 135) 32 rfl wp.heap.size 3 t3 _ 1 8 Try.underlying32 j3 j3z j3a j3b rfl (by decide) u19 q (intCells row) rfl (hown2.alloc _) ⟨wr.heap.size, 0, none⟩ 1 1 [.int .i64 x] rfl rfl (cells_new wr [.int .i64 x] 3) (ints_oneCell .i64 [_]) (by omega) ?_ ?_ ?_ (wr.heap.size + 1) (by simp) ?_))
                      · unfold maxLen; omega
                      · omega
                      · rw [World.size_alloc]; omega
                      intro g gcap w3 hown3 hgrow _ _
                      have HN := Lib.hid (And.intro hown3 ((HB3.out.alloc hsb3 (.cells #[.int .i64 x] 3)).grown hgrow (by rw [World.size_alloc]; omega) (fun b hb => (hown2.lt b hb).1)))
                      clear hown2 hown3 hgrow
                      go_wp2_with fail
                      go_roundg (rn - (q + 1))
                      case measure => have := HK3.out; omega
                      case rel => exact ⟨q + 1, row ++ [x], rfl, by omega, by go_num, by have := HROW.out; simp; omega, all_snoc HRFF.out HX.out, by rw [intCells_snoc]; exact HN.out.1, HN.out.2⟩
                    · have hq : q = rn := by omega
                      subst hq
                      have kq : ¬ (q : Int) < q := by omega
                      have hxt := HXT.out.later hbel
                      have HXT2 := Lib.hid hxt
                      obtain ⟨RW, rwcap, rfl⟩ := own_slice hown
                      have y1 := hxt.c1
                      have hown2 := hxt.grows.own
                      rw [hxt.len] at hown2
                      have hsx2 := hxt.size
                      have hsb3 := hbel.size
                      obtain ⟨t32, j32, j32z, j32a, j32b⟩ := info_parts info32
                      clear hgk hrow hrf hown hbel hxt x0
                      go_wp2_with (at_builtin; go_must (refine wpList_append_lies _ rfl (.tmp 139) (.tmp 141) 35 rfl (wo.heap.size + 1) 32 t32 _ 1 24 Try.underlying35 j32 j32z j32a j32b rfl (by decide) tv p vs2 rfl (hown2.alloc _) ⟨wr.heap.size, 0, none⟩ 1 1 [.slice RW q rwcap] rfl rfl (cells_new wr [.slice RW q rwcap] 32) (fun y hy => by rw [List.mem_singleton.1 hy]; rfl) (by omega) ?_ ?_ ?_ (wr.heap.size + 1) (by simp) ?_))
                      · unfold maxLen; omega
                      · omega
                      · omega
                      intro g gcap w3 hown3 hgrow hat _
                      have hmid := HXT2.out.mid (row := row) (base := wp.heap.size) (by rw [← HRN.out]; exact HOWN.out) (by rw [← HRN.out]; exact HROW.out) HRFF.out ⟨hsx, fun b hb => (HXT.out.grows.own.lt b hb).2⟩ hgrow hown3 hat
                      have q0 := hmid.1
                      have q1 := hmid.2.1
                      have q2 := Lib.hid hmid.2.2
                      clear hmid hgrow hown3 hat hown2 y1
                      go_wp2_with fail
                      go_roundg (n2 - (p + 1))
                      case measure => have := HK2.out; omega
                      case rel => exact ⟨p + 1, _, items ++ [row], _, rfl, by omega, by omega, by go_num, q2.out⟩
                · have hways : ¬ (p : Int) < n2 ∨ ((p : Int) < n2 ∧ ¬ (p : Int) < 5) := by omega
                  have hpm : p = m := by have := HM.out; omega
                  clear hlt hgk hxt
                  rcases hways with e1 | ⟨e1, e2⟩
                  all_goals
                    go_wp2_with fail
                    go_meet
                    case rel => exact ⟨tv, items, vs2, by rw [← hpm]; exact HXT.out⟩
          case first =>
            obtain ⟨b1, off1, rfl, hc⟩ := I1.out z1
            obtain ⟨A', n', c', hn', hcell, hin⟩ := hc j hlt1
            have HIN := Lib.hid hin
            have HCELL := Lib.hid hcell
            clear hc hcell hin
            go_wp2_with fail
            go_loopg [17] (n') (fun gk kv W => ∃ (rv : Value) (rl : List Int) (k : Nat), gk = n' - k ∧ k ≤ n' ∧ k ≤ 5 ∧ kv = .int .i64 k ∧ XR wo W wo.heap.size rv rl i k)
            case atStart => exact ⟨_, [], 0, rfl, Nat.zero_le _, by omega, rfl, XR.start wo i⟩
            case round =>
              obtain ⟨rv, rl, k, hgk, hkn, hk5, rfl, hxr⟩ := hrel
              have HK2 := Lib.hid hgk
              have HXR := Lib.hid hxr
              have hb : Below w.heap.size w wr := HBWO.out.trans (hxr.below.mono (by omega))
              have c0 := below_cell hb HCELL.out
              clear hgk
              by_cases hlt : k < n' ∧ k < 5
              · obtain ⟨hk1, hk2⟩ := hlt
                have kk1 : (k : Int) < n' := by omega
                have kk2 : (k : Int) < 5 := by omega
                obtain ⟨b2, off2, rfl, hc2⟩ := HIN.out (by omega)
                obtain ⟨x, hx, hcell2⟩ := hc2 k hk1
                have c1 := below_cell hb hcell2
                have x0 := hxr.c0
                have x1 := hxr.f0
                have hsx := hxr.size
                clear hc2 hcell2 hb hxr
                obtain ⟨y, hy⟩ : ∃ y, y = x % i := ⟨_, rfl⟩
                have hyi : y < i := by rw [hy]; exact Nat.mod_lt _ hi0
                have wx : IntKind.i64.wrap (x : Int) = x := IntWalk.i64_in _ (by omega)
                have m1 : (x : Int).tmod i = y := by rw [Int.tmod_eq_emod_of_nonneg (by omega), hy]; exact (Int.natCast_emod x i).symm
                have m2 : (x : Int) % i = y := by rw [hy]; exact (Int.natCast_emod x i).symm
                have ni : ¬ (i : Int) = 0 := by omega
                have ni2 : ¬ i = 0 := by omega
                have hlb1 := World.block_lt_of_cell? wr _ c0
                have hlb2 := World.block_lt_of_cell? wr _ c1
                have hown := HXR.out.own
                obtain ⟨t3, j3, j3z, j3a, j3b⟩ := info_parts info3
                clear hy
                go_upto_region 21 with fail
                go_region_law
                  ((refine step_append_lies _ (by rfl) _ _ _ (by rfl) (wo.heap.size + 1) 3 t3 _ 1 8 Try.underlying32 j3 j3z j3a j3b rfl (by omega) rv k (intCells rl) (by rfl) ((hown.alloc _).drew) ⟨wr.heap.size, 0, none⟩ 1 1 [.int .i64 (y : Int)] (by rfl) (by rfl) (World.news_of_block (cs := #[.int .i64 (y : Int)]) (t := 3) (fr := (0, 0)) (heap_alloc_new wr _ : _)) (by simp [Value.oneCell']) (by omega) (by unfold maxLen; omega) (by omega) (by simp; omega) (wr.heap.size + 1) (by simp) ?_; intro gg gcap w1 hown1 hgrow hat hlt; have hq := HXR.out.mid hgrow hown1; have q0 := hq.1; have q1 := hq.2.1; have q2 := Lib.hid hq.2.2; clear hq hgrow hown1 hat))
                all_goals
                  go_wp2_with fail
                  go_roundg (n' - (k + 1))
                  case measure => have := HK2.out; omega
                  case rel => exact ⟨_, rl ++ [(y : Int)], k + 1, rfl, by omega, by omega, by go_num, q2.out (by omega) (by omega)⟩
              · have hways : ¬ (k : Int) < n' ∨ ((k : Int) < n' ∧ ¬ (k : Int) < 5) := by omega
                clear hlt hb hxr
                rcases hways with e1 | ⟨e1, e2⟩
                all_goals
                  go_wp2_with fail
                  go_meet
                  case rel => exact ⟨rv, rl, k, hk5, HXR.out⟩
        · have hways : ¬ (j : Int) < n1 ∨ ((j : Int) < n1 ∧ ¬ (j : Int) < 4) := by omega
          have hj0 : 0 < j := by omega
          clear hlt
          rcases hways with e1 | ⟨e1, e2⟩
          all_goals
            go_wp2_with fail
            go_meet
            case rel => exact ⟨j, l, cs, hj0, hj4, HLS.out⟩
  go_wp2_with fail
  go_loopg [12, 8] (n0) (fun gk iv av W => ∃ (i : Nat) (all : List (List Ax)) (vs : List Value), gk = n0 - i ∧ i ≤ n0 ∧ i ≤ 6 ∧ iv = .int .i64 i ∧ Alls w W av all vs i ax)
  case atStart => exact ⟨0, [], [], rfl, Nat.zero_le _, by omega, rfl, ⟨grows_nil _ _ _ _ _, Below.refl _ _, rfl, by simp⟩⟩
  case round =>
    obtain ⟨i, all, vs, hgk, hin, hi6, rfl, hal⟩ := hrel
    have HK := Lib.hid hgk
    have HAL := Lib.hid hal
    obtain ⟨wo, rfl⟩ : ∃ wo : World, wo = wr := ⟨_, rfl⟩
    have hsz := hal.below.size
    by_cases hlt : i < n0 ∧ i < 6
    · obtain ⟨hlt1, hlt2⟩ := hlt
      have ki : (i : Int) < n0 := by omega
      have ki6 : (i : Int) < 6 := by omega
      clear hgk hal
      go_wp2_with fail
      go_loopg [54, 13] (ax) (fun gk kv xv W => ∃ (k : Nat) (L : List Ax), gk = ax - k ∧ k ≤ ax ∧ kv = .int .i64 k ∧ L.length = k ∧ (∀ x ∈ L, Ax.Ok x) ∧ W.ownsRow wo.heap.size 48 3 xv k (axCells L) ∧ Below wo.heap.size wo W)
      case atStart => exact ⟨0, [], rfl, Nat.zero_le _, rfl, rfl, by simp, World.ownsRow_nil _ _ _ _, Below.refl _ _⟩
      case round =>
        obtain ⟨k, L, hgk, hkx, rfl, hL, hok, hown, hbel⟩ := hrel
        have HK2 := Lib.hid hgk
        have HL := Lib.hid hL
        have HOK := Lib.hid hok
        have HOWN := Lib.hid hown
        have HB := Lib.hid hbel
        by_cases hlt : k < ax
        · obtain ⟨b0, off0, rfl, hc⟩ := I0.out z0
          obtain ⟨A', n', c', hn', hcell, hin3⟩ := hc i hlt1
          have hbw : Below w.heap.size w wr := HAL.out.below.trans (hbel.mono hsz)
          have e0 := below_cell hbw hcell
          have hA := Lib.hid (axis_any n' c' k A' wr hn' (by omega) (old_3 hin3 hbw))
          have kk : (k : Int) < ax := by omega
          unfold Axed at hA
          clear hgk hL hok hown hbel hc hcell hin3 hbw
          go_wp2_with fail
          refine hA.out.mono ?_
          rintro e w2 ⟨⟨x, rfl, hx⟩, hb2⟩
          have HXO := Lib.hid hx
          have HB2 := Lib.hid (HB.out.trans (hb2.mono HB.out.size))
          have hown2 : w2.ownsRow wo.heap.size 48 3 u13 k (axCells L) := own_block HOWN.out (fun q hq => hb2.block q (HOWN.out.lt q hq).2)
          have hs2 := HB2.out.size
          clear hx hb2 e0
          go_wp2_with (at_builtin; go_must (refine wpList_append_lies _ rfl (.tmp 57) (.tmp 64) 47 rfl wo.heap.size 48 t48 _ 3 24 Try.underlying47 j48 j48z j48a j48b rfl (by decide) u13 k (axCells L) rfl (hown2.alloc _) ⟨w2.heap.size, 0, none⟩ 1 1 [.int .i64 x.a, .int .i64 x.b, .int .i64 x.c] rfl rfl (cells_new w2 [.int .i64 x.a, .int .i64 x.b, .int .i64 x.c] 48) (ints_oneCell .i64 [_, _, _]) (by omega) ?_ ?_ ?_ (w2.heap.size + 1) (by simp) ?_))
          · unfold maxLen; omega
          · omega
          · rw [World.size_alloc]; omega
          intro g cap w3 hown3 hgrow _ _
          have HN := Lib.hid (ax_next hown2 HB2.out hgrow hown3)
          clear hown2 hown3 hgrow
          go_wp2_with fail
          go_roundg (ax - (k + 1))
          case measure => have := HK2.out; omega
          case rel => exact ⟨k + 1, L ++ [x], rfl, by omega, by go_num, by have := HL.out; simp; omega, all_snoc HOK.out HXO.out, HN.out.1, HN.out.2⟩
        · have hkx2 : k = ax := by omega
          subst hkx2
          have kk : ¬ (k : Int) < k := by omega
          have hg0 := HAL.out.grows
          have hgb := hg0.kept good_axes (show Below wo.heap.size wo wr from hbel)
          have hown2 := hgb.own
          have hl0 := HAL.out.len
          obtain ⟨XA, xcap, rfl⟩ := own_slice hown
          rw [hl0] at hown2
          have hs2 := hbel.size
          clear hgk hL hok hown hbel hg0 hgb hl0
          go_wp2_with (at_builtin; go_must (refine wpList_append_lies _ rfl (.tmp 67) (.tmp 69) 30 rfl w.heap.size 47 t47 _ 1 24 Try.underlying30 j47 j47z j47a j47b rfl (by decide) u8 i vs rfl (hown2.alloc _) ⟨wr.heap.size, 0, none⟩ 1 1 [.slice XA k xcap] rfl rfl (cells_new wr [.slice XA k xcap] 47) (fun y hy => by rw [List.mem_singleton.1 hy]; rfl) (by omega) ?_ ?_ ?_ (wr.heap.size + 1) (by simp) ?_))
          · unfold maxLen; omega
          · omega
          · omega
          intro g cap w3 hown3 hgrow hat _
          have HN := Lib.hid (HAL.out.next HOWN.out HB.out HL.out HOK.out rfl hgrow hown3 hat)
          clear hown2 hown3 hgrow hat
          go_wp2_with fail
          go_roundg (n0 - (i + 1))
          case measure => have := HK.out; omega
          case rel => exact ⟨i + 1, all ++ [L], vs ++ [.slice XA k xcap], rfl, by omega, by omega, by go_num, HN.out⟩
    · have hways : ¬ (i : Int) < n0 ∨ ((i : Int) < n0 ∧ ¬ (i : Int) < 6) := by omega
      have hi0 : 0 < i := by omega
      clear hgk hal hlt
      rcases hways with e1 | ⟨e1, e2⟩
      all_goals
        go_wp2_with fail
        go_meet
        case rel => exact ⟨i, all, vs, hi0, hi6, HAL.out⟩

theorem some_any (n0 n1 n2 n3 c0 c1 c2 c3 : Nat) (A0 A1 A2 A3 : Option Addr) (w : World) (h0 : n0 ≤ 9223372036854775807) (h1 : n1 ≤ 9223372036854775807) (h2 : n2 ≤ 9223372036854775807) (h3 : n3 ≤ 9223372036854775807)
    (i0 : InAll In3 w A0 n0) (i1 : InAll InU8 w A1 n1) (i2 : InAll InI16 w A2 n2) (i3 : InI16 w A3 n3) (hc3 : n3 ≤ c3) (hc3b : c3 ≤ 9223372036854775807) :
    Calls Try.prog 7 #[.slice A0 n0 c0, .slice A1 n1 c1, .slice A2 n2 c2, .slice A3 n3 c3] w (Stored w) := by
  by_cases h : n0 = 0 ∨ n3 = 0 ∨ n1 = 0 ∨ n2 = 0
  · exact some_none n0 n1 n2 n3 c0 c1 c2 c3 A0 A1 A2 A3 w h0 h1 h2 h3 h
  · exact some_full n0 n1 n2 n3 c0 c1 c2 c3 (min n3 3) A0 A1 A2 A3 w h0 h1 h2 h3 rfl (by omega) (by omega) (by omega) (by omega) i0 i1 i2 i3 hc3 hc3b
end Go.Proofs.Ytdknpamegphjlaa.Sd
