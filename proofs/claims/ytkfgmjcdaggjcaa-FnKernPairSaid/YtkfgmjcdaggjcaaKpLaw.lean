/- The law of the pairs, walked. -/
import Derived.Test.YtkfgmjcdaggjcaaKpNil
import Derived.Deep.AppendLies
import Derived.Deep.RegionHeld3
namespace Go.Proofs.Ytkfgmjcdaggjcaa.Kp
open Go Go.RowKit

theorem u16_of (x : Int) : ∃ n : Nat, IntKind.u16.wrap x = n ∧ n < 65536 := by
  refine ⟨(IntKind.u16.wrap x).toNat, ?_, ?_⟩ <;> simp [IntKind.wrap, IntKind.bits, IntKind.signed] <;> omega

/-- The loop's next round. -/
theorem tri_next {w wr w1 : World} {k g cap ta tb : Nat} {z : Int} {v : Value} {L : List Tri} {t : TypeId} (ho : wr.ownsRow w.heap.size 27 3 v k (triCells L)) (hb : Below w.heap.size w wr) (hs : w.heap.size ≤ wr.heap.size)
    (hg : ((wr.alloc (.cells #[.int .i64 ta, .int .i64 tb, .int .i64 z] t)).drew).grownBy w1 v.ownBlock) (h1 : w1.ownsRow w.heap.size 27 3 (.slice (some ⟨g, 0, none⟩) (k + 1) cap) (k + 1) (triCells L ++ [.int .i64 ta, .int .i64 tb, .int .i64 z])) :
    w1.ownsRow w.heap.size 27 3 (.slice (some ⟨g, 0, none⟩) (k + 1) cap) (k + 1) (triCells (L ++ [⟨ta, tb, z⟩])) ∧ Below w.heap.size w w1 := by
  refine ⟨by rw [triCells_append]; exact h1, ?_⟩
  exact (((hb.alloc hs _).drew).grown hg (by simp; omega) (fun q hq => (ho.lt q hq).1))
theorem tri_ok {L : List Tri} {ta tb : Nat} {z : Int} (h : ∀ t ∈ L, Tri.Ok t) (ha : ta < 40) (hb : tb < 40) (h1 : -32768 ≤ z) (h2 : z ≤ 32767) : ∀ t ∈ L ++ [⟨ta, tb, z⟩], Tri.Ok t := by
  intro x hx
  rcases List.mem_append.mp hx with h' | h'
  · exact h x h'
  · rw [List.mem_singleton.mp h']; exact ⟨ha, hb, h1, h2⟩
theorem answer_next {l : List Tri} {k a b : Nat} {t : Tri} {v : Int} (ht : l[k]? = some t) (h : Answer (l.take k) a b v) (hno : ¬ (t.a = a ∧ t.b = b)) : Answer (l.take (k + 1)) a b v := by
  obtain ⟨hk, h1⟩ := List.getElem?_eq_some_iff.1 ht
  rw [List.take_succ_eq_append_getElem hk, h1]
  rcases h with ⟨s, hs, e1, e2, e3⟩ | ⟨e, h2⟩
  · exact .inl ⟨s, List.mem_append_left _ hs, e1, e2, e3⟩
  · refine .inr ⟨e, fun s hs => ?_⟩
    rcases List.mem_append.1 hs with hs | hs
    · exact h2 s hs
    · rw [List.mem_singleton.1 hs]; exact hno
theorem answer_hit {l : List Tri} {k a b : Nat} {t : Tri} (ht : l[k]? = some t) (ha : t.a = a) (hb : t.b = b) : Answer (l.take (k + 1)) a b t.v := by
  obtain ⟨hk, h1⟩ := List.getElem?_eq_some_iff.1 ht
  rw [List.take_succ_eq_append_getElem hk, h1]
  exact .inl ⟨t, by simp, ha, hb, rfl⟩
theorem own_reads {w : World} {base g n cap : Nat} {bs : List Nat} {vs : List Int} (h : w.ownsRow base 5 1 (.slice (some ⟨g, 0, none⟩) n cap) n (byteCells bs)) (hb : bs = shorts vs) : Reads w g 0 vs := by
  subst hb
  intro j x hx
  have hl := h.1
  have hj := (List.getElem?_eq_some_iff.1 hx).1
  simp [byteCells] at hl
  rw [Nat.zero_add, h.cellAt j (by omega)]
  simp [byteCells, hx]
theorem nodup_le : ∀ (l m : List Nat), l.Nodup → (∀ x ∈ l, x ∈ m) → l.length ≤ m.length
  | [], _, _, _ => by simp
  | x :: l, m, hn, hs => by
    have hx := hs x (by simp)
    have h1 := nodup_le l (m.erase x) (List.nodup_cons.1 hn).2 (fun y hy => by
      have hne : y ≠ x := fun e => (List.nodup_cons.1 hn).1 (e ▸ hy)
      exact (List.mem_erase_of_ne hne).2 (hs y (by simp [hy])))
    rw [List.length_erase_of_mem hx] at h1
    have := List.length_pos_of_mem hx
    simp
    omega
theorem str_le {l2 l : List Tri} (hs : Str l2) (h : ∀ x ∈ l2, x ∈ l) : l2.length ≤ l.length := by
  have := nodup_le (l2.map Tri.key) (l.map Tri.key) (by
    unfold List.Nodup
    rw [List.pairwise_map]
    exact hs.imp (fun h => by omega)) (fun k hk => by
    obtain ⟨x, hx, rfl⟩ := List.mem_map.1 hk
    exact List.mem_map.2 ⟨x, h x hx, rfl⟩)
  simpa using this

set_option maxRecDepth 1000000 in
set_option maxHeartbeats 4000000 in
theorem law_any (n cap a b : Nat) (A : Option Addr) (w : World) (hn : n ≤ 2147483647) (ha : a < 256) (hb : b < 256) (hA : Came w A n) :
    Calls Try.prog 3 #[.slice A n cap, .int .u8 a, .int .u8 b] w (Law w) := by
  obtain ⟨i0, hi, hz0, hz1, hz2⟩ := info_parts info27
  have HA := Lib.hid hA
  have d0 : decide ((2147483647 : Int) < n) = false := decide_eq_false (by omega)
  clear hA
  go_enter Try.func3, Try.ntmps3
  go_wp2_with fail
  go_loopg [8, 7] (n) (fun gk iv lv W => ∃ (k : Nat) (L : List Tri), k ≤ n ∧ k ≤ 60 ∧ gk = n - k ∧ iv = .int .i64 k ∧ L.length = k ∧ (∀ t ∈ L, Tri.Ok t) ∧ W.ownsRow w.heap.size 27 3 lv k (triCells L) ∧ (k = 0 → lv = .slice none 0 0) ∧ Below w.heap.size w W)
  case atStart => exact ⟨0, [], Nat.zero_le _, by omega, rfl, rfl, rfl, by simp, World.ownsRow_nil _ _ _ _, fun _ => rfl, Below.refl _ _⟩
  case round =>
    obtain ⟨k, L, hk, hk60, hgk, rfl, hLl, hok, hown, hnil, hbel⟩ := hrel
    have HK := Lib.hid hgk
    have HLL := Lib.hid hLl
    have HOK := Lib.hid hok
    have HO := Lib.hid hown
    have HB := Lib.hid hbel
    have hsz := hbel.size
    have HNIL := Lib.hid hnil
    clear hgk hLl hok hown hnil
    by_cases hlt : k < n ∧ k < 60
    · obtain ⟨hlt, hlt60⟩ := hlt
      have k60 : (k : Int) < 60 := by omega
      have kn : (k : Int) < n := by omega
      obtain ⟨bk, off, rfl, hcells⟩ := HA.out (by omega)
      obtain ⟨x, y, z, hx, hy, hz, c0, c1, c2⟩ := hcells k hlt
      have hbk := World.block_lt_of_cell? w _ c0
      have e0 : wr.cell? ⟨bk, off + k * 3, none⟩ = some (.int .i16 x) := (hbel.cell hbk).trans c0
      have e1 : wr.cell? ⟨bk, off + k * 3 + 1, none⟩ = some (.int .i16 y) := (hbel.cell (p := ⟨bk, off + k * 3 + 1, none⟩) hbk).trans c1
      have e2 : wr.cell? ⟨bk, off + k * 3 + 2, none⟩ = some (.int .i16 z) := (hbel.cell (p := ⟨bk, off + k * 3 + 2, none⟩) hbk).trans c2
      have ag : u7.ownBlock ≠ some bk := fun h => by have := (HO.out.lt bk h).1; have : bk < w.heap.size := hbk; omega
      have hbkr : bk < wr.heap.size := Nat.lt_of_lt_of_le hbk hsz
      have hown := HO.out
      obtain ⟨xn, hxn, hxl⟩ := u16_of x
      obtain ⟨yn, hyn, hyl⟩ := u16_of y
      obtain ⟨ta, hta⟩ : ∃ ta, ta = xn % 40 := ⟨_, rfl⟩
      obtain ⟨tb, htb⟩ : ∃ tb, tb = yn % 40 := ⟨_, rfl⟩
      have hta4 : ta < 40 := by omega
      have htb4 : tb < 40 := by omega
      have hz1' : -32768 ≤ z := hz.1
      have hz2' : z ≤ 32767 := hz.2
      have kx : IntKind.i64.wrap (xn : Int) = xn := IntWalk.i64_in _ (by omega)
      have ky : IntKind.i64.wrap (yn : Int) = yn := IntWalk.i64_in _ (by omega)
      have kz : IntKind.i64.wrap z = z := IntWalk.i64_in _ (by omega)
      have mx : (xn : Int).tmod 40 = ta := by rw [Int.tmod_eq_emod_of_nonneg (by omega)]; omega
      have my : (yn : Int).tmod 40 = tb := by rw [Int.tmod_eq_emod_of_nonneg (by omega)]; omega
      clear hta htb hx hy hz hxl hyl
      have k6 : IntKind.i64.wrap (k : Int) = k := IntWalk.i64_in _ (by omega)
      clear hcells c0 c1 c2 hbel
      go_upto_region 7 with fail
      go_region_held3 (fun w' => w'.cell? ⟨bk, off + k * 3, none⟩ = some (.int .i16 x) ∧ w'.cell? ⟨bk, off + k * 3 + 1, none⟩ = some (.int .i16 y) ∧ w'.cell? ⟨bk, off + k * 3 + 2, none⟩ = some (.int .i16 z))
        (first
          | go_keep
          | (go_split_ands
             refine ⟨?_, ?_, ?_⟩
             · (rw [hgrow.cell_far _ (by rw [World.size_drew, World.size_alloc]; exact Nat.lt_succ_of_lt hbkr) (Ne.symm ag)]; assumption)
             · (rw [hgrow.cell_far _ (by rw [World.size_drew, World.size_alloc]; exact Nat.lt_succ_of_lt hbkr) (Ne.symm ag)]; assumption)
             · (rw [hgrow.cell_far _ (by simp; omega) (Ne.symm ag)]; assumption)))
        ((refine step_append_lies _ (by rfl) _ _ _ (by rfl) w.heap.size 27 i0 _ 3 24 Try.underlying23 hi hz0 hz1 hz2 rfl (by omega) u7 k (triCells L) (by rfl) ((hown.alloc _).drew)
            ⟨wr.heap.size, 0, none⟩ 1 1 [.int .i64 (ta : Int), .int .i64 (tb : Int), .int .i64 z] (by rfl) (by rfl) (World.news_of_block (cs := #[.int .i64 (ta : Int), .int .i64 (tb : Int), .int .i64 z]) (t := 27) (fr := (0, 0)) (heap_alloc_new wr _ : _)) (by simp [Value.oneCell'])
            (by omega) (by unfold maxLen; omega) (by omega) (by simp; omega) (wr.heap.size + 1) (by simp) ?_; intro gg cap w1 hown1 hgrow hat hlt))
      have HT := Lib.hid (tri_next (L := L) hown HB.out hsz hgrow hown1)
      clear hgrow hown1 hat hown e0 e1 e2 ag
      go_wp2_with fail
      go_roundg (n - (k + 1))
      case measure => have := HK.out; omega
      case rel => exact ⟨k + 1, L ++ [⟨ta, tb, z⟩], by omega, by omega, rfl, by go_num, by have := HLL.out; simp; omega, tri_ok HOK.out hta4 htb4 hz1' hz2', HT.out.1, fun h => by omega, HT.out.2⟩
    · by_cases hk0 : k = 0
      · subst hk0
        obtain rfl := HNIL.out rfl
        obtain rfl : n = 0 := by omega
        go_wp2_with fail
        refine (sort_nil wr).mono ?_
        rintro e w1 ⟨rfl, hb1⟩
        have HB1 := Lib.hid (hbel.trans (hb1.mono hsz))
        clear hb1
        go_wp2_with fail
        refine (compact_nil w1).mono ?_
        rintro e w2 ⟨rfl, hb2⟩
        have HB2 := Lib.hid (HB1.out.trans (hb2.mono HB1.out.size))
        clear hb2
        go_wp2
        go_ret
        exact ⟨rfl, HB2.out⟩
      · have hkp : 0 < k := by omega
        obtain ⟨g, lcap, hu⟩ : ∃ g lcap, u7 = .slice (some ⟨g, 0, none⟩) k lcap := by
          rcases HO.out.2 with ⟨_, h0⟩ | ⟨g, cap, cur, h, _⟩
          · omega
          · exact ⟨g, cap, h⟩
        subst hu
        have hnow : Now w.heap.size g k lcap L w wr := ⟨HO.out, hbel, hsz⟩
        have HS := Lib.hid (sort_any w.heap.size g k lcap L w wr hk60 HOK.out hnow)
        obtain ⟨pa, hpa⟩ : ∃ pa, pa = a % 40 := ⟨_, rfl⟩
        obtain ⟨pb, hpb⟩ : ∃ pb, pb = b % 40 := ⟨_, rfl⟩
        have hpa4 : pa < 40 := by omega
        have hpb4 : pb < 40 := by omega
        have ma : (a : Int) % 40 = pa := by omega
        have mb : (b : Int) % 40 = pb := by omega
        have ma2 : (a : Int).tmod 40 = pa := by rw [Int.tmod_eq_emod_of_nonneg (by omega)]; omega
        have mb2 : (b : Int).tmod 40 = pb := by rw [Int.tmod_eq_emod_of_nonneg (by omega)]; omega
        have wa : IntKind.i64.wrap (pa : Int) = pa := IntWalk.i64_in _ (by omega)
        have wb : IntKind.i64.wrap (pb : Int) = pb := IntWalk.i64_in _ (by omega)
        have hcases : ¬ k < n ∨ (k < n ∧ k = 60) := by omega
        have HKN : k ≤ 60 := hk60
        clear hpa hpb hnow hlt hbel HO
        have hways : ¬ (k : Int) < n ∨ ((k : Int) < n ∧ ¬ (k : Int) < 60) := by omega
        clear hcases
        rcases hways with d1 | ⟨d1, d2⟩
        all_goals
          go_wp2_with fail
          refine HS.out.mono ?_
          rintro e w1 ⟨rfl, l', hperm, hasc, hnow1⟩
          have HC := Lib.hid (compact_any w.heap.size g k lcap l' w w1 hk60 hkp (fun x hx => HOK.out x (hperm.subset hx)) hasc hnow1)
          unfold Compacted at HC
          have hl'k : l'.length = k := hnow1.len
          have hl'0 : l' ≠ [] := fun h => by rw [h] at hl'k; simp at hl'k; omega
          have HP := Lib.hid (And.intro hperm (And.intro hl'k hl'0))
          clear hperm hasc hnow1 hl'k hl'0
          go_wp2_with fail
          refine HC.out.mono ?_
          rintro e w2 ⟨l2, rfl, hstr, hmem, hne, hnow2⟩
          obtain ⟨m, hm⟩ : ∃ m, m = l2.length := ⟨_, rfl⟩
          have hm60 : m ≤ 60 := by
            have h1 := str_le hstr hmem
            have h2 := HP.out.2.1
            omega
          have hm1 : 0 < m := by
            rw [hm]
            exact List.length_pos_iff.2 (hne HP.out.2.2)
          rw [← hm] at hnow2 ⊢
          have HM := Lib.hid hm
          have HSTR := Lib.hid hstr
          have hok2 : ∀ x ∈ l2, Tri.Ok x := fun x hx => HOK.out x (HP.out.1.subset (hmem x hx))
          have HOK2 := Lib.hid hok2
          have HNOW2 := Lib.hid hnow2
          have hm0 : ((m : Int) == 0) = false := by rw [beq_eq_false_iff_ne]; omega
          clear hstr hmem hne hnow2 hm hok2 d1
          go_wp2_with fail
          go_loopg [70, 11] (m) (fun gk iv wv W => ∃ (j : Nat) (v : Int), gk = m - j ∧ j ≤ m ∧ iv = .int .i64 j ∧ wv = .int .i64 v ∧ Answer (l2.take j) pa pb v ∧ Now w.heap.size g m lcap l2 w W)
          case atStart => exact ⟨0, 0, rfl, Nat.zero_le _, rfl, rfl, .inr ⟨rfl, by simp⟩, HNOW2.out⟩
          case round =>
            obtain ⟨j, v, hgk, hjm, rfl, rfl, hans, hnow⟩ := hrel
            have HK3 := Lib.hid hgk
            have HANS := Lib.hid hans
            have HNOW3 := Lib.hid hnow
            by_cases hlt : j < m
            · obtain ⟨t, ht⟩ : ∃ t, l2[j]? = some t := ⟨_, List.getElem?_eq_getElem (by have := HM.out; omega)⟩
              obtain ⟨c0, c1, c2⟩ := hnow.at_ ht
              have hjm2 : (j : Int) < m := by omega
              have hb3 : Below wr.heap.size wr (wr.alloc (.cells #[.int .i64 t.a, .int .i64 t.b, .int .i64 t.v] 27)) := (Below.refl _ _).alloc (Nat.le_refl _) _
              have HN4 := Lib.hid (hnow.later hb3)
              have HT := Lib.hid ht
              have HNX := Lib.hid (fun h => answer_next ht hans h)
              have HHIT := Lib.hid (fun h1 h2 => answer_hit (a := pa) (b := pb) ht h1 h2)
              generalize t.a = ta at *
              generalize t.b = tb at *
              generalize t.v = tv at *
              clear hgk hans hnow hb3 ht
              by_cases ea : ta = pa
              · by_cases eb : tb = pb
                · have e1 : ((ta : Int) == pa) = true := by rw [ea]; simp
                  have e2 : ((tb : Int) == pb) = true := by rw [eb]; simp
                  have HIT := Lib.hid (HHIT.out ea eb)
                  clear ea eb
                  go_wp2_with fail
                  go_roundg (m - (j + 1))
                  case measure => have := HK3.out; omega
                  case rel => exact ⟨j + 1, tv, rfl, by omega, by go_num, rfl, HIT.out, HN4.out⟩
                · have e1 : ((ta : Int) == pa) = true := by rw [ea]; simp
                  have e2 : ((tb : Int) == pb) = false := by rw [beq_eq_false_iff_ne]; omega
                  have HIT := Lib.hid (HNX.out (fun h => eb h.2))
                  clear ea eb
                  go_wp2_with fail
                  go_roundg (m - (j + 1))
                  case measure => have := HK3.out; omega
                  case rel => exact ⟨j + 1, v, rfl, by omega, by go_num, rfl, HIT.out, HN4.out⟩
              · have e1 : ((ta : Int) == pa) = false := by rw [beq_eq_false_iff_ne]; omega
                have HIT := Lib.hid (HNX.out (fun h => ea h.1))
                clear ea
                go_wp2_with fail
                go_roundg (m - (j + 1))
                case measure => have := HK3.out; omega
                case rel => exact ⟨j + 1, v, rfl, by omega, by go_num, rfl, HIT.out, HN4.out⟩
            · have hfin : Answer l2 pa pb v := by
                have h := HANS.out
                rwa [List.take_of_length_le (by have := HM.out; omega)] at h
              have HFIN := Lib.hid hfin
              have HBW := Lib.hid hnow.below
              have HLOW := hnow.low
              have HKB := Lib.hid (kbytes_any w.heap.size g m lcap l2 w wr hm60 hm1 HOK2.out hnow)
              unfold Written at HKB
              clear hgk hans hnow hfin
              go_wp2_with fail
              refine HKB.out.mono ?_
              rintro e w4 ⟨s1, s2, s3, q, cp, bs, hbs, rfl, hown, hb4⟩
              obtain ⟨N, hN⟩ : ∃ N, N = bs.length := ⟨_, rfl⟩
              have hr := own_reads hown hbs
              have hNm : N = 18 + 6 * m := by
                rw [hN, hbs, shorts_len, List.length_append, nums_len, ← HM.out]
                simp
                omega
              have hcap : N ≤ cp ∧ cp ≤ 9223372036854775807 := by
                rcases hown.2 with ⟨e, _⟩ | ⟨g', cap', cur, e, _, _, h1, h2, _⟩
                · simp at e
                · injection e with _ _ e3
                  subst e3
                  unfold maxLen at h2
                  omega
              rw [← HM.out] at hr
              have hI := Lib.hid (impl_any q N cp m pa pb l2 s1 s2 s3 w4 HM.out.symm hNm hm1 hm60 hcap.1 hcap.2 (hown.lt q rfl).2 hpa4 hpb4 HOK2.out HSTR.out hr)
              rw [← hN]
              have HB4 := Lib.hid (HBW.out.trans (hb4.mono HLOW))
              have hs4 := HB4.out.size
              clear hown hb4 hbs hN hr hNm hcap
              go_wp2_with fail
              refine hI.out.mono ?_
              rintro e w5 ⟨⟨u, rfl, hu⟩, hb5⟩
              obtain rfl := answer_one HSTR.out HOK2.out HFIN.out hu
              have HB5 := Lib.hid (HB4.out.trans (hb5.mono hs4))
              clear hu hb5
              go_wp2
              go_ret
              exact ⟨by simp, HB5.out⟩
end Go.Proofs.Ytkfgmjcdaggjcaa.Kp
