/- The law of family names, walked: the law's own body. -/
import Derived.Test.YtpmlofllkhpihaaZz
import Derived.Maps.AppendAt
import Derived.WalkSmall
namespace Go.Proofs.Ytpmlofllkhpihaa
open Go.RowKit Fam

theorem info5 : (Try.prog.info? 5).map (fun i => (i.zero, i.size, i.bytes)) = some (some (.int .u8 0), 1, 1) := by kernel_rfl

theorem bytes_getD (s : ByteArray) (n : Nat) (h : n < s.size) : ((s[n]'h).toNat : Int) = (s.data.toList.map fun b => (b.toNat : Int)).getD n 0 := by
  have e : s[n]'h = s.data[n]'h := rfl
  rw [e]
  simp only [List.getD, List.getElem?_map, Array.getElem?_toList]
  rw [Array.getElem?_eq_getElem (show n < s.data.size from h)]
  rfl

theorem alpha_at (x : Int) (h : (x % 36).toNat < (ByteArray.mk #[97, 98, 99, 100, 101, 102, 103, 104, 105, 106, 107, 108, 109, 110, 111, 112, 113, 114, 115, 116, 117, 118, 119, 120, 121, 122, 65, 66, 67, 88, 89, 90, 32, 45, 48, 57]).size) :
    (((ByteArray.mk #[97, 98, 99, 100, 101, 102, 103, 104, 105, 106, 107, 108, 109, 110, 111, 112, 113, 114, 115, 116, 117, 118, 119, 120, 121, 122, 65, 66, 67, 88, 89, 90, 32, 45, 48, 57])[(x % 36).toNat]'h).toNat : Int) = letter x := by
  rw [bytes_getD]
  rfl

/-- The letters of the first k numbers. -/
def bsOf (z : List Int) (k : Nat) : List Int := (z.take k).map letter
theorem bsOf_succ (z : List Int) (k : Nat) (hk : k < z.length) : bsOf z (k + 1) = bsOf z k ++ [letter (z.getD k 0)] := by
  unfold bsOf
  rw [take_snoc z k hk, List.map_append, List.map_singleton]
theorem bsOf_len (z : List Int) (k : Nat) (hk : k ≤ z.length) : (bsOf z k).length = k := by unfold bsOf; simp; omega
theorem bsOf_ok (z : List Int) (k : Nat) : ∀ c ∈ bsOf z k, Ok c := by
  intro c hc
  unfold bsOf at hc
  obtain ⟨x, _, rfl⟩ := List.mem_map.1 hc
  exact letter_ok x

theorem first_step {W w1 wr : World} {v v' : Value} {k : Nat} {z : List Int} {x c : Int} {o : Obj} {B : Nat} (hown' : w1.ownsRow B 5 1 v' (k + 1) (nums .u8 (bsOf z k) ++ [.int .u8 c])) (hc : c = letter x) (hx : x = z.getD k 0) (hk : k < z.length)
    (hown : wr.ownsRow B 5 1 v k (nums .u8 (bsOf z k))) (hg : (wr.alloc o).grownBy w1 v.ownBlock) (hbel : Below B W wr) (hB : B = W.heap.size) :
    w1.ownsRow B 5 1 v' (k + 1) (nums .u8 (bsOf z (k + 1))) ∧ Below B W w1 := by
  subst hB
  refine ⟨?_, (hbel.alloc hbel.size o).grown hg (by have := hbel.size; simp; omega) (fun j hj => (hown.lt j hj).1)⟩
  rw [bsOf_succ z k hk, ← nums_snoc, ← hx, ← hc]
  exact hown'

/-- Two rows of the call's own that don't share a block. -/
def Apart (v u : Value) : Prop := ∀ k, v.ownBlock = some k → u.ownBlock ≠ some k
theorem Apart.nil (v : Value) : Apart v (.slice none 0 0) := fun k _ h => by simp [Value.ownBlock] at h
theorem Apart.symm {v u : Value} (h : Apart v u) : Apart u v := fun k hk h2 => h k h2 hk
/-- Behind an append to v (in the world W), what lay apart from it still does, and is owned. -/
theorem own_beside {W w1 : World} {B e m b : Nat} {v v' u : Value} {xs : List Value} (hu : W.ownsRow B e 1 u m xs) (ha : Apart v u) (hg : W.grownBy w1 v.ownBlock) (hat : v'.ownBlock = v.ownBlock ∨ v'.ownBlock = some b) (hb : W.heap.size ≤ b) :
    w1.ownsRow B e 1 u m xs ∧ Apart v' u := by
  refine ⟨hu.kept hg ?_, ?_⟩
  · by_cases h : u.ownBlock = none
    · exact .inl h
    · refine .inr fun he => ?_
      obtain ⟨k, hk⟩ := Option.ne_none_iff_exists'.1 h
      exact ha k (by rw [← he, hk]) hk
  · intro k hk hk2
    rcases hat with hat | hat
    · exact ha k (by rw [← hat, hk]) hk2
    · rw [hat] at hk
      have := (hu.lt k hk2).2
      injection hk with hk
      omega

/-- What a row of the call's own reads as: its address, and the cells. -/
theorem own_read {W : World} {B n : Nat} {v : Value} {k : IntKind} {e : Nat} {xs : List Int} (h : W.ownsRow B e 1 v n (nums k xs)) :
    ∃ A c, v = .slice A n c ∧ (0 < n → ∃ g, A = some ⟨g, 0, none⟩ ∧ ∀ j, j < n → W.cell? ⟨g, j, none⟩ = some (.int k (xs.getD j 0))) := by
  have hl : xs.length = n := by have := h.1; simp [nums] at this; exact this
  rcases h.2 with ⟨rfl, rfl⟩ | ⟨g, cap, cur, rfl, _⟩
  · exact ⟨none, 0, rfl, fun h => absurd h (by omega)⟩
  · refine ⟨_, cap, rfl, fun _ => ⟨g, rfl, fun j hj => ?_⟩⟩
    have := h.cells (g := g) rfl j (.int k (xs.getD j 0)) (by simp [nums, List.getElem?_eq_getElem (show j < xs.length by omega), List.getD_eq_getElem?_getD])
    simpa [Addr.add_lit] using this

theorem own_bytes {P : Program} {w : World} {base n : Nat} {e' src dst e : TypeId} {v : Value} {xs : List Int} (hs : P.underlying src = some (.slice e)) (he : P.underlying e = some (.int .u8)) (hd : P.underlying dst = some .string)
    (h : w.ownsRow base e' 1 v n (nums .u8 xs)) : (convert src dst v).run P w = .ok (.string (strOfNums xs)) w := by
  have hl : xs.length = n := by have := h.1; simp [nums] at this; exact this
  obtain ⟨A, c, rfl, hread⟩ := own_read h
  rcases h.2 with ⟨hv, rfl⟩ | ⟨g, cap, cur, hv, _⟩
  · cases hv
    obtain rfl : xs = [] := List.eq_nil_of_length_eq_zero hl
    exact run_convert_bytes_nil w src e hs he 0 0 dst hd
  · cases hv
    refine run_convert_bytes_arg w src e hs he g 0 n _ xs hl (fun i hi => ?_) dst hd
    obtain ⟨g', hg', hc⟩ := hread (by omega)
    cases hg'
    simpa using hc i hi
theorem own_later {w w1 : World} {base n : Nat} {e : TypeId} {size : Nat} {v : Value} {xs : List Value} (h : w.ownsRow base e size v n xs) (hb : Below w.heap.size w w1) : w1.ownsRow base e size v n xs :=
  h.kept (row := none) ⟨hb.os, hb.tape, hb.output, hb.size, fun i hi _ => hb.block i hi⟩ (by cases v.ownBlock <;> simp)

/-- What holds at the head of a round of the second loop. -/
def Two (B : Nat) (bs : List Int) (j : Nat) (pv gv : Value) (W : World) : Prop :=
  W.ownsRow B 5 1 pv (plainOf (bs.take j)).length (nums .u8 (plainOf (bs.take j))) ∧ W.ownsRow B 5 1 gv (2 * j) (nums .u8 (greatOf (bs.take j))) ∧ Apart pv gv

/-- The round in which a letter is kept: two appends. -/
theorem two_keep {B j : Nat} {bs : List Int} {W0 wr w1 w2 : World} {pv pv' gv gv' : Value} {o o2 : Obj} {c sm bg : Int} (hj : j < bs.length) (hc : c = bs.getD j 0) (h32 : c ≠ 32) (hsm : sm = small c) (hbg : bg = big c)
    (hB : B = W0.heap.size) (hbel : Below B W0 wr) (h : Two B bs j pv gv wr)
    (hown1 : w1.ownsRow B 5 1 pv' ((plainOf (bs.take j)).length + 1) (nums .u8 (plainOf (bs.take j)) ++ [.int .u8 sm])) (hg1 : (wr.alloc o).grownBy w1 pv.ownBlock) (hat1 : pv'.ownBlock = pv.ownBlock ∨ pv'.ownBlock = some (wr.heap.size + 1))
    (hown2 : w2.ownsRow B 5 1 gv' (2 * j + 2) (nums .u8 (greatOf (bs.take j)) ++ [.int .u8 bg, .int .u8 32])) (hg2 : (w1.alloc o2).grownBy w2 gv.ownBlock) (hat2 : gv'.ownBlock = gv.ownBlock ∨ gv'.ownBlock = some (w1.heap.size + 1)) :
    Two B bs (j + 1) pv' gv' w2 ∧ Below B W0 w2 := by
  subst hB
  obtain ⟨hp, hg, ha⟩ := h
  obtain ⟨hg', ha'⟩ := own_beside (hg.alloc o) ha hg1 hat1 (by simp)
  obtain ⟨hp', ha2⟩ := own_beside (hown1.alloc o2) ha'.symm hg2 hat2 (by simp)
  have hb1 : Below W0.heap.size W0 w1 := (hbel.alloc hbel.size o).grown hg1 (by have := hbel.size; simp; omega) (fun k hk => (hp.lt k hk).1)
  refine ⟨⟨?_, ?_, ha2.symm⟩, (hb1.alloc hb1.size o2).grown hg2 (by have := hb1.size; simp; omega) (fun k hk => (hg.lt k hk).1)⟩
  · rw [take_snoc bs j hj, plain_snoc, ← hc, if_neg h32, List.length_append, ← nums_snoc, ← hsm]
    exact hp'
  · rw [take_snoc bs j hj, great_snoc, ← hc, ← nums_snoc, ← hbg]
    exact hown2

/-- The round in which a blank is dropped: one append. -/
theorem two_drop {B j : Nat} {bs : List Int} {W0 wr w2 : World} {pv gv gv' : Value} {o2 : Obj} {c bg : Int} (hj : j < bs.length) (hc : c = bs.getD j 0) (h32 : c = 32) (hbg : bg = big c)
    (hB : B = W0.heap.size) (hbel : Below B W0 wr) (h : Two B bs j pv gv wr)
    (hown2 : w2.ownsRow B 5 1 gv' (2 * j + 2) (nums .u8 (greatOf (bs.take j)) ++ [.int .u8 bg, .int .u8 32])) (hg2 : (wr.alloc o2).grownBy w2 gv.ownBlock) (hat2 : gv'.ownBlock = gv.ownBlock ∨ gv'.ownBlock = some (wr.heap.size + 1)) :
    Two B bs (j + 1) pv gv' w2 ∧ Below B W0 w2 := by
  subst hB
  obtain ⟨hp, hg, ha⟩ := h
  obtain ⟨hp', ha2⟩ := own_beside (hp.alloc o2) ha.symm hg2 hat2 (by simp)
  refine ⟨⟨?_, ?_, ha2.symm⟩, (hbel.alloc hbel.size o2).grown hg2 (by have := hbel.size; simp; omega) (fun k hk => (hg.lt k hk).1)⟩
  · rw [take_snoc bs j hj, plain_snoc, ← hc, if_pos h32, List.append_nil]
    exact hp'
  · rw [take_snoc bs j hj, great_snoc, ← hc, ← nums_snoc, ← hbg]
    exact hown2

set_option maxHeartbeats 4000000 in
theorem law_any (a0 : Option Addr) (len cap : Nat) (z : List Int) (w : World) (hlen : len ≤ 2147483647) (hz : len ≤ z.length)
    (hc : 0 < len → ∃ b off, a0 = some ⟨b, off, none⟩ ∧ ∀ j, j < len → w.cell? ⟨b, off + j, none⟩ = some (.int .u8 (z.getD j 0))) (hr : ∀ n ∈ z, 0 ≤ n ∧ n ≤ 255) :
    Calls Try.prog 3 #[.slice a0 len cap] w fun e w' => e = .returned (.bool true) ∧ Below w.heap.size w w' := by
  obtain ⟨i0, hi, hz0, hz1, hz2⟩ := info_parts info5
  have ht : ¬ (2147483647 : Int) < len := by omega
  go_enter Try.func3, Try.ntmps3
  go_wp2
  go_loopg [3, 4] (len) (fun gk v iv wr => ∃ k : Nat, k ≤ len ∧ k ≤ 30 ∧ gk = len - k ∧ iv = .int .i64 k ∧
    wr.ownsRow w.heap.size 5 1 v k (nums .u8 (bsOf z k)) ∧ Below w.heap.size w wr)
  case atStart => exact ⟨0, Nat.zero_le _, by omega, rfl, rfl, World.ownsRow_nil _ _ _ _, Below.refl _ _⟩
  case round =>
    obtain ⟨k, hk, hk30, hgk, rfl, hown, hbel⟩ := hrel
    have HG := Lib.hid hgk
    clear hgk
    by_cases hlt : k < len ∧ k < 30
    · obtain ⟨hlt, hlt30⟩ := hlt
      obtain ⟨b, off, rfl, hcell⟩ := hc (by omega)
      obtain ⟨x, hx⟩ : ∃ x, x = z.getD k 0 := ⟨_, rfl⟩
      have hcx : wr.cell? ⟨b, off + k, none⟩ = some (.int .u8 x) := by
        have h1 := hcell k hlt
        rw [hx, ← h1]
        exact hbel.cell (World.block_lt_of_cell? w _ h1)
      have hx0 : 0 ≤ x ∧ x ≤ 255 := by
        rw [hx]
        have hkz : k < z.length := by omega
        have := hr (z[k]) (List.getElem_mem hkz)
        simpa [List.getD, hkz] using this
      obtain ⟨hx1, hx2⟩ := hx0
      have HX := Lib.hid hx
      clear hx hcell hc
      go_wp2_with (at_builtin; go_must (refine wpList_append_own _ rfl (.tmp 25) (.tmp 32) 22 rfl (w.heap.size) 5 i0 (.int .u8 0) 1 1 Try.underlying22 hi hz0 hz1 hz2 rfl (by decide) _ _ _ rfl (hown.alloc _) ⟨wr.heap.size, 0, none⟩ 1 1 [_] rfl rfl (cell_new1 _ _ _) (ints_oneCell .u8 [_]) ?_ ?_ ?_ ?_))
      · unfold maxLen; omega
      · omega
      · have := hbel.size; simp; omega
      · intro v' w1 hown' hgrow _
        have R := first_step hown' (alpha_at x _) HX.out (by omega) hown hgrow hbel rfl
        have HR := Lib.hid R
        clear R hown' hgrow hown
        go_wp2
        go_roundg (len - (k + 1))
        case measure => have := HG.out; omega
        case rel => exact ⟨k + 1, by omega, by omega, rfl, by go_num, HR.out.1, HR.out.2⟩
    · have hbl := bsOf_len z k (by omega)
      have hbok := bsOf_ok z k
      obtain ⟨bs, hbs⟩ : ∃ bs, bs = bsOf z k := ⟨_, rfl⟩
      rw [← hbs] at hown hbl hbok
      obtain ⟨A, cb, rfl, hread⟩ := own_read hown
      have HL := Lib.hid hbl
      clear hbs hbl
      have hcases : (k < len ∧ ¬ k < 30) ∨ ¬ k < len := by omega
      clear hlt
      obtain ⟨wo, rfl⟩ : ∃ wo : World, wo = wr := ⟨_, rfl⟩
      rcases hcases with ⟨hlt, h30⟩ | hlt
      all_goals
        go_wp2_with fail
        go_loopg [36, 5, 6] (k) (fun gk iv pv gv W2 => ∃ j : Nat, j ≤ k ∧ gk = k - j ∧ iv = .int .i64 j ∧ Two wo.heap.size bs j pv gv W2 ∧ Below wo.heap.size wo W2)
        case atStart => exact ⟨0, Nat.zero_le _, rfl, rfl, ⟨World.ownsRow_nil _ _ _ _, World.ownsRow_nil _ _ _ _, Apart.nil _⟩, Below.refl _ _⟩
        case round =>
          obtain ⟨j, hj, hgk2, rfl, htwo, hbel2⟩ := hrel
          have HG2 := Lib.hid hgk2
          have HT := Lib.hid htwo
          clear hgk2
          obtain ⟨hp, hgr, hap⟩ := htwo
          by_cases hjk : j < k
          · obtain ⟨g, rfl, hcell2⟩ := hread (by omega)
            obtain ⟨c, hc2⟩ : ∃ c, c = bs.getD j 0 := ⟨_, rfl⟩
            have hcc : wr.cell? ⟨g, j, none⟩ = some (.int .u8 c) := by
              have h1 := hcell2 j hjk
              rw [hc2, ← h1]
              exact hbel2.cell (World.block_lt_of_cell? wo _ h1)
            have hok : Ok c := by
              rw [hc2]
              have hkz : j < bs.length := by have := HL.out; omega
              have := hbok (bs[j]) (List.getElem_mem hkz)
              simpa [List.getD, hkz] using this
            obtain ⟨hc3, hc4⟩ := hok
            have HC2 := Lib.hid hc2
            clear hc2 hcell2 hread
            by_cases h32 : c = 32
            · subst h32
              go_wp2_with (at_builtin; go_must (refine wpList_append_own_at _ rfl (.tmp 64) (.tmp 66) 22 rfl (wo.heap.size) 5 i0 (.int .u8 0) 1 1 Try.underlying22 hi hz0 hz1 hz2 rfl (by decide) _ _ _ rfl (hgr.alloc _) ⟨wr.heap.size, 0, none⟩ 2 2 [_, .int .u8 32] rfl rfl (cell_two_new _ _ _ _) (ints_oneCell .u8 [_, 32]) ?_ ?_ ?_ ?_))
              · unfold maxLen; omega
              · omega
              · have := hbel2.size; simp; omega
              intro gv' w4 hown2 hg2 _ hat2
              have R := two_drop (by have := HL.out; omega) HC2.out rfl (by decide) rfl hbel2 HT.out hown2 hg2 hat2
              have HR := Lib.hid R
              clear R hown2 hg2 hat2 hgr hp hap
              go_wp2
              go_roundg (k - (j + 1))
              case measure => have := HG2.out; omega
              case rel => exact ⟨j + 1, by omega, rfl, by go_num, HR.out.1, HR.out.2⟩
            · have t1 : (c != 32) = true := by rw [bne_iff_ne]; exact h32
              rcases (show (c < 65 ∨ (90 < c ∧ c < 97)) ∨ (65 ≤ c ∧ c ≤ 90) ∨ (97 ≤ c ∧ c ≤ 122) from by omega) with (hq | ⟨hq, hq2⟩) | ⟨hq, hq2⟩ | ⟨hq, hq2⟩
              · have q1 : ¬ (65 ≤ c ∧ c ≤ 90) := by omega
                have q2 : ¬ (97 ≤ c ∧ c ≤ 122) := by omega
                go_wp2_with (at_builtin; go_must (refine wpList_append_own_at _ rfl (.tmp 60) (.tmp 62) 22 rfl (wo.heap.size) 5 i0 (.int .u8 0) 1 1 Try.underlying22 hi hz0 hz1 hz2 rfl (by decide) _ _ _ rfl (hp.alloc _) ⟨wr.heap.size, 0, none⟩ 1 1 [_] rfl rfl (cell_one_new _ _ _) (ints_oneCell .u8 [_]) ?_ ?_ ?_ ?_))
                · have := plain_le (bs.take j); have : (bs.take j).length ≤ j := List.length_take_le _ _; unfold maxLen; omega
                · have := plain_le (bs.take j); have : (bs.take j).length ≤ j := List.length_take_le _ _; omega
                · have := hbel2.size; simp; omega
                intro pv' w3 hown1 hg1 _ hat1
                obtain ⟨hgr', ha'⟩ := own_beside (hgr.alloc _) hap hg1 hat1 (by simp)
                go_wp2_with (at_builtin; go_must (refine wpList_append_own_at _ rfl (.tmp 64) (.tmp 66) 22 rfl (wo.heap.size) 5 i0 (.int .u8 0) 1 1 Try.underlying22 hi hz0 hz1 hz2 rfl (by decide) _ _ _ rfl (hgr'.alloc _) ⟨w3.heap.size, 0, none⟩ 2 2 [_, .int .u8 32] rfl rfl (cell_two_new _ _ _ _) (ints_oneCell .u8 [_, 32]) ?_ ?_ ?_ ?_))
                · unfold maxLen; omega
                · omega
                · have := hbel2.size; have := hg1.size; simp at this; simp; omega
                intro gv' w4 hown2 hg2 _ hat2
                have R := two_keep (by have := HL.out; omega) HC2.out h32 (by unfold small; rw [if_neg q1]) (by unfold big; rw [if_neg q2]) rfl hbel2 HT.out hown1 hg1 hat1 hown2 hg2 hat2
                have HR := Lib.hid R
                clear R hown1 hown2 hg1 hg2 hat1 hat2 hgr hgr' hp ha' hap
                go_wp2
                go_roundg (k - (j + 1))
                case measure => have := HG2.out; omega
                case rel => exact ⟨j + 1, by omega, rfl, by go_num, HR.out.1, HR.out.2⟩
              · have q1 : ¬ (65 ≤ c ∧ c ≤ 90) := by omega
                have q2 : ¬ (97 ≤ c ∧ c ≤ 122) := by omega
                go_wp2_with (at_builtin; go_must (refine wpList_append_own_at _ rfl (.tmp 60) (.tmp 62) 22 rfl (wo.heap.size) 5 i0 (.int .u8 0) 1 1 Try.underlying22 hi hz0 hz1 hz2 rfl (by decide) _ _ _ rfl (hp.alloc _) ⟨wr.heap.size, 0, none⟩ 1 1 [_] rfl rfl (cell_one_new _ _ _) (ints_oneCell .u8 [_]) ?_ ?_ ?_ ?_))
                · have := plain_le (bs.take j); have : (bs.take j).length ≤ j := List.length_take_le _ _; unfold maxLen; omega
                · have := plain_le (bs.take j); have : (bs.take j).length ≤ j := List.length_take_le _ _; omega
                · have := hbel2.size; simp; omega
                intro pv' w3 hown1 hg1 _ hat1
                obtain ⟨hgr', ha'⟩ := own_beside (hgr.alloc _) hap hg1 hat1 (by simp)
                go_wp2_with (at_builtin; go_must (refine wpList_append_own_at _ rfl (.tmp 64) (.tmp 66) 22 rfl (wo.heap.size) 5 i0 (.int .u8 0) 1 1 Try.underlying22 hi hz0 hz1 hz2 rfl (by decide) _ _ _ rfl (hgr'.alloc _) ⟨w3.heap.size, 0, none⟩ 2 2 [_, .int .u8 32] rfl rfl (cell_two_new _ _ _ _) (ints_oneCell .u8 [_, 32]) ?_ ?_ ?_ ?_))
                · unfold maxLen; omega
                · omega
                · have := hbel2.size; have := hg1.size; simp at this; simp; omega
                intro gv' w4 hown2 hg2 _ hat2
                have R := two_keep (by have := HL.out; omega) HC2.out h32 (by unfold small; rw [if_neg q1]) (by unfold big; rw [if_neg q2]) rfl hbel2 HT.out hown1 hg1 hat1 hown2 hg2 hat2
                have HR := Lib.hid R
                clear R hown1 hown2 hg1 hg2 hat1 hat2 hgr hgr' hp ha' hap
                go_wp2
                go_roundg (k - (j + 1))
                case measure => have := HG2.out; omega
                case rel => exact ⟨j + 1, by omega, rfl, by go_num, HR.out.1, HR.out.2⟩
              · have q2 : ¬ (97 ≤ c ∧ c ≤ 122) := by omega
                go_wp2_with (at_builtin; go_must (refine wpList_append_own_at _ rfl (.tmp 60) (.tmp 62) 22 rfl (wo.heap.size) 5 i0 (.int .u8 0) 1 1 Try.underlying22 hi hz0 hz1 hz2 rfl (by decide) _ _ _ rfl (hp.alloc _) ⟨wr.heap.size, 0, none⟩ 1 1 [_] rfl rfl (cell_one_new _ _ _) (ints_oneCell .u8 [_]) ?_ ?_ ?_ ?_))
                · have := plain_le (bs.take j); have : (bs.take j).length ≤ j := List.length_take_le _ _; unfold maxLen; omega
                · have := plain_le (bs.take j); have : (bs.take j).length ≤ j := List.length_take_le _ _; omega
                · have := hbel2.size; simp; omega
                intro pv' w3 hown1 hg1 _ hat1
                obtain ⟨hgr', ha'⟩ := own_beside (hgr.alloc _) hap hg1 hat1 (by simp)
                go_wp2_with (at_builtin; go_must (refine wpList_append_own_at _ rfl (.tmp 64) (.tmp 66) 22 rfl (wo.heap.size) 5 i0 (.int .u8 0) 1 1 Try.underlying22 hi hz0 hz1 hz2 rfl (by decide) _ _ _ rfl (hgr'.alloc _) ⟨w3.heap.size, 0, none⟩ 2 2 [_, .int .u8 32] rfl rfl (cell_two_new _ _ _ _) (ints_oneCell .u8 [_, 32]) ?_ ?_ ?_ ?_))
                · unfold maxLen; omega
                · omega
                · have := hbel2.size; have := hg1.size; simp at this; simp; omega
                intro gv' w4 hown2 hg2 _ hat2
                have R := two_keep (by have := HL.out; omega) HC2.out h32 (by unfold small; rw [if_pos ⟨hq, hq2⟩]) (by unfold big; rw [if_neg q2]) rfl hbel2 HT.out hown1 hg1 hat1 hown2 hg2 hat2
                have HR := Lib.hid R
                clear R hown1 hown2 hg1 hg2 hat1 hat2 hgr hgr' hp ha' hap
                go_wp2
                go_roundg (k - (j + 1))
                case measure => have := HG2.out; omega
                case rel => exact ⟨j + 1, by omega, rfl, by go_num, HR.out.1, HR.out.2⟩
              · have q1 : ¬ (65 ≤ c ∧ c ≤ 90) := by omega
                go_wp2_with (at_builtin; go_must (refine wpList_append_own_at _ rfl (.tmp 60) (.tmp 62) 22 rfl (wo.heap.size) 5 i0 (.int .u8 0) 1 1 Try.underlying22 hi hz0 hz1 hz2 rfl (by decide) _ _ _ rfl (hp.alloc _) ⟨wr.heap.size, 0, none⟩ 1 1 [_] rfl rfl (cell_one_new _ _ _) (ints_oneCell .u8 [_]) ?_ ?_ ?_ ?_))
                · have := plain_le (bs.take j); have : (bs.take j).length ≤ j := List.length_take_le _ _; unfold maxLen; omega
                · have := plain_le (bs.take j); have : (bs.take j).length ≤ j := List.length_take_le _ _; omega
                · have := hbel2.size; simp; omega
                intro pv' w3 hown1 hg1 _ hat1
                obtain ⟨hgr', ha'⟩ := own_beside (hgr.alloc _) hap hg1 hat1 (by simp)
                go_wp2_with (at_builtin; go_must (refine wpList_append_own_at _ rfl (.tmp 64) (.tmp 66) 22 rfl (wo.heap.size) 5 i0 (.int .u8 0) 1 1 Try.underlying22 hi hz0 hz1 hz2 rfl (by decide) _ _ _ rfl (hgr'.alloc _) ⟨w3.heap.size, 0, none⟩ 2 2 [_, .int .u8 32] rfl rfl (cell_two_new _ _ _ _) (ints_oneCell .u8 [_, 32]) ?_ ?_ ?_ ?_))
                · unfold maxLen; omega
                · omega
                · have := hbel2.size; have := hg1.size; simp at this; simp; omega
                intro gv' w4 hown2 hg2 _ hat2
                have R := two_keep (by have := HL.out; omega) HC2.out h32 (by unfold small; rw [if_neg q1]) (by unfold big; rw [if_pos ⟨hq, hq2⟩]) rfl hbel2 HT.out hown1 hg1 hat1 hown2 hg2 hat2
                have HR := Lib.hid R
                clear R hown1 hown2 hg1 hg2 hat1 hat2 hgr hgr' hp ha' hap
                go_wp2
                go_roundg (k - (j + 1))
                case measure => have := HG2.out; omega
                case rel => exact ⟨j + 1, by omega, rfl, by go_num, HR.out.1, HR.out.2⟩
          · have e1 : bs.take j = bs := List.take_of_length_le (by have := HL.out; omega)
            have hpv : wr.ownsRow wo.heap.size 5 1 u5 (plainOf bs).length (nums .u8 (plainOf bs)) := by have := hp; rwa [e1] at this
            have hgv : wr.ownsRow wo.heap.size 5 1 u6 (2 * j) (nums .u8 (greatOf bs)) := by have := hgr; rwa [e1] at this
            have hbv := own_later hown hbel2
            obtain ⟨s1, hs1⟩ : ∃ s1, s1 = strOfNums bs := ⟨_, rfl⟩
            obtain ⟨sp, hsp⟩ : ∃ s1, s1 = strOfNums (plainOf bs) := ⟨_, rfl⟩
            obtain ⟨sg, hsg⟩ : ∃ s1, s1 = strOfNums (greatOf bs) := ⟨_, rfl⟩
            have hc1 : (convert 22 9 (.slice A k cb)).run Try.prog wr = .ok (.string s1) wr := by rw [hs1]; exact own_bytes Try.underlying22 Try.underlying5 Try.underlying9 hbv
            have HP : Hid (∀ W, Below wr.heap.size wr W → (convert 22 9 u5).run Try.prog W = .ok (.string sp) W) := fun W h => by rw [hsp]; exact own_bytes Try.underlying22 Try.underlying5 Try.underlying9 (own_later hpv h)
            have HR : Hid (∀ W, Below wr.heap.size wr W → (convert 22 9 u6).run Try.prog W = .ok (.string sg) W) := fun W h => by rw [hsg]; exact own_bytes Try.underlying22 Try.underlying5 Try.underlying9 (own_later hgv h)
            have F1 : Hid (∀ W, Calls Try.prog 6 #[.string s1] W fun e w' => e = .returned (.string sp) ∧ Below W.heap.size W w') := fun W => by
              rw [hs1, hsp, ← fam_plain hbok]; exact fname_any bs hbok (by have := HL.out; omega) W
            have F2 : Hid (∀ W, Calls Try.prog 6 #[.string sp] W fun e w' => e = .returned (.string sp) ∧ Below W.heap.size W w') := fun W => by
              have := fname_any (plainOf bs) (plain_ok hbok) (by have := plain_le bs; have := HL.out; omega) W
              rw [fam_fam hbok, ← hsp] at this; exact this
            have F3 : Hid (∀ W, Calls Try.prog 6 #[.string sg] W fun e w' => e = .returned (.string sp) ∧ Below W.heap.size W w') := fun W => by
              have := fname_any (greatOf bs) (great_ok hbok) (by have := great_len bs; have := HL.out; omega) W
              rw [fam_great hbok, ← hsp, ← hsg] at this; exact this
            have HB : Hid (Below w.heap.size w wr) := hbel.trans (hbel2.mono hbel.size)
            clear hs1 hsp hsg hpv hgv hbv hp hgr hown hap hread hbok HL HT e1 hbel hbel2
            go_wp2_with fail
            refine (F1.out _).mono ?_
            rintro e w3 ⟨rfl, hb3⟩
            have hp3 := HP.out w3 hb3
            go_wp2_with fail
            refine (F2.out _).mono ?_
            rintro e w4 ⟨rfl, hb4⟩
            have hg4 := HR.out w4 (hb3.trans (hb4.mono hb3.size))
            go_wp2_with fail
            refine (F3.out _).mono ?_
            rintro e w5 ⟨rfl, hb5⟩
            have hb6 := ((HB.out.trans (hb3.mono HB.out.size)).trans (hb4.mono (Nat.le_trans HB.out.size hb3.size))).trans (hb5.mono (Nat.le_trans (Nat.le_trans HB.out.size hb3.size) hb4.size))
            go_wp2
            go_ret
            exact ⟨rfl, hb6⟩
/-- A text that is too long is not spoken of. -/
theorem law_long (a0 : Option Addr) (len cap : Nat) (w : World) (hlen : 2147483647 < len) (hmax : len ≤ 9223372036854775807) :
    Calls Try.prog 3 #[.slice a0 len cap] w fun e w' => e = .returned (.bool true) ∧ Below w.heap.size w w' := by
  have ht : (2147483647 : Int) < len := by omega
  go_enter Try.func3, Try.ntmps3
  go_wp2
  go_ret
  exact ⟨rfl, Below.refl _ _⟩
end Go.Proofs.Ytpmlofllkhpihaa
