/- A file put together: walked. -/
import Derived.Test.YtgggpllmgnpngaaGreatDoorTbDir
namespace Go.Proofs.YtgggpllmgnpngaaGreatDoor.Tb
open Go Go.RowKit

/-- The tags and the tables handed in. -/
structure Given (G1 G2 : Nat) (ln : Nat → Nat) (w : World) : Prop where
  tag : ∀ j, j < 8 → w.cell? ⟨G1, j, none⟩ = some (.string (tag j))
  row : ∀ j, j < 8 → ∃ (g cp : Nat) (bt : List Nat), w.cell? ⟨G2, j, none⟩ = some (.slice (some ⟨g, 0, none⟩) (ln j) cp) ∧ bt.length = ln j ∧ (∀ b ∈ bt, b < 256) ∧ (∀ t b, bt[t]? = some b → w.cell? ⟨g, t, none⟩ = some (.int .u8 (b : Nat))) ∧ g < w.heap.size ∧ ln j ≤ cp ∧ cp ≤ 9223372036854775807
  len : ∀ j, j < 8 → 0 < ln j ∧ ln j ≤ 1000

def Put (ln : Nat → Nat) (w : World) (e : Ending) (w' : World) : Prop :=
  ∃ B N cap bs, e = .returned (.slice (some ⟨B, 0, none⟩) N cap) ∧ InMem B N cap bs w' ∧ Dir bs (offs ln) ln ∧ Below w.heap.size w w' ∧ w.heap.size ≤ B

theorem short_o (T m : Nat) (bs bb : List Nat) (vb : Value) (vals : List Int) (cs : List Value) (w0 w : World) (hcs : cs = vals.map fun x => .int .i64 x) (hm : vals.length = m) (hm3 : m ≤ 20) (hvals : ∀ x ∈ vals, -1000000000000 < x ∧ x < 1000000000000) (hbs : bs.length ≤ 100000) (h : OutS T bs bb vb w0 w) :
    Calls Tryz.prog 16 #[.pointer (some ⟨T, 0, none⟩), .slice (some ⟨w.heap.size, 0, none⟩) m m] (w.alloc (.cells cs.toArray 3)).drew fun e w' => e = .returned (.pointer (some ⟨T, 0, none⟩)) ∧ OutS T (bs ++ shorts vals) bb vb w0 w' := by
  subst hcs
  have hb : Below w.heap.size w (w.alloc (.cells (vals.map fun x => Value.int .i64 x).toArray 3)).drew := ((Below.refl _ _).alloc (Nat.le_refl _) _).drew
  have h' := h.later hb
  obtain ⟨v, h1, h2⟩ := h.tab
  have h1' := h1.later hb
  refine (short_any T (T + 1) m bs vals (.slice none 0 0) v _ _ hm hm3 hvals hbs h1' ((row_new _ w _ 3 m (fun h => by have := h1.mine _ h; omega) (by simpa using hm) (by omega)).below (Below.refl _ _).drew)).mono ?_
  rintro e w' ⟨rfl, v', hw⟩
  exact ⟨rfl, h'.wrote h2 h1' hw⟩

theorem ents_congr {sm sm' : Nat → Int} {at_ ln : Nat → Nat} {k : Nat} (h : ∀ i, i < k → sm i = sm' i) : ents sm at_ ln k = ents sm' at_ ln k := by
  induction k with
  | zero => rfl
  | succ k ih => rw [ents_succ, ents_succ, ih (fun i hi => h i (by omega)), h k (by omega)]
theorem own_slice {w : World} {base n : Nat} {e : TypeId} {size : Nat} {v : Value} {xs : List Value} (h : w.ownsRow base e size v n xs) : ∃ A cap, v = .slice A n cap := by
  rcases h.2 with ⟨h1, h2⟩ | ⟨g, cap, cur, hv, _⟩
  · exact ⟨none, 0, by rw [h1, h2]⟩
  · exact ⟨_, cap, hv⟩

set_option maxRecDepth 100000 in
set_option maxHeartbeats 8000000 in
theorem put_any (R : Value) (G1 G2 c1 c2 : Nat) (ln : Nat → Nat) (w : World) (h : Given G1 G2 ln w) :
    Calls Tryz.prog 25 #[R, .slice (some ⟨G1, 0, none⟩) 8 c1, .slice (some ⟨G2, 0, none⟩) 8 c2] w (Put ln w) := by
  have H := Lib.hid h
  clear h
  obtain ⟨T, hT⟩ : ∃ T, T = w.heap.size := ⟨_, rfl⟩
  obtain ⟨w1, hw1⟩ : ∃ w1, w1 = w.alloc (.cells #[.slice none 0 0, .slice none 0 0] 67) := ⟨_, rfl⟩
  have h1 : OutS T [] [] (.slice none 0 0) w w1 := by
    rw [hT, hw1]
    exact ⟨Nat.le_refl _, ⟨_, tab_start w, fun q hq => by simp [Value.ownBlock] at hq⟩, World.ownsRow_nil _ _ _ _, (Below.refl _ _).alloc (Nat.le_refl _) _⟩
  have HL := Lib.hid (long_o T [] [] _ 65536 w w1 (by omega) (by omega) (by simp) h1)
  have HW1 := Lib.hid (And.intro hw1 hT)
  clear hw1 h1 hT
  go_enter Tryz.func25, Tryz.ntmps25
  go_wp2_with fail
  rw [← HW1.out.1, ← HW1.out.2]
  with_reducible refine HL.out.mono ?_
  rintro e w2 ⟨rfl, h2⟩
  have HO := Lib.hid h2
  clear h2 HL HW1
  go_wp2_with fail
  go_loopg [9] (4) (fun gk kv W => ∃ k : Nat, k ≤ 3 ∧ gk = 4 - k ∧ kv = .int .i64 k ∧ W = w2)
  case atStart => exact ⟨0, by omega, rfl, rfl, rfl⟩
  case round =>
    obtain ⟨k, hk, hgk, rfl, rfl⟩ := hrel
    have HK := Lib.hid hgk
    clear hgk
    have hk4 : k = 0 ∨ k = 1 ∨ k = 2 ∨ k = 3 := by omega
    rcases hk4 with rfl | rfl | rfl | rfl
    · go_wp2_with fail
      go_roundg 3
      case measure => rw [HK.out]; omega
      case rel => exact ⟨1, by omega, rfl, rfl, rfl⟩
    · go_wp2_with fail
      go_roundg 2
      case measure => rw [HK.out]; omega
      case rel => exact ⟨2, by omega, rfl, rfl, rfl⟩
    · go_wp2_with fail
      go_roundg 1
      case measure => rw [HK.out]; omega
      case rel => exact ⟨3, by omega, rfl, rfl, rfl⟩
    · clear HK hk
      have HS := Lib.hid (short_o T 4 _ [] _ [8, 128, 3, 0] [.int .i64 8, .int .i64 128, .int .i64 3, .int .i64 0] w wr rfl rfl (by omega) (by intro x hx; simp at hx; omega) (by simp [shorts, two]) HO.out)
      have k128 : IntKind.i64.wrap 128 = 128 := by decide
      have k0 : IntKind.i64.wrap 0 = 0 := by decide
      have e3 : ((3 : Nat) : Int) = 3 := rfl
      rw [e3]
      clear e3
      go_upto_region 5 with fail
      go_region_with (go_at_call 16; (with_reducible refine HS.out.mono ?_); rintro e w3 ⟨rfl, h3⟩)
      go_wp2_with fail
      have h0 : OutS T (headB ++ ents (fun _ => 0) (offs ln) ln 0) [] (.slice none 0 0) w w3 := by
        have : headB ++ ents (fun _ => 0) (offs ln) ln 0 = [] ++ shorts [65536 / 65536, 65536] ++ shorts [8, 128, 3, 0] := by
          have e : ents (fun _ => 0) (offs ln) ln 0 = [] := rfl
          rw [e, List.append_nil]
          rfl
        rw [this]
        exact h3
      have H0 := Lib.hid h0
      clear h0 h3 HS HO k128 k0
      go_loopg [11, 45] (8) (fun gk bv iv W => ∃ (k : Nat) (sm : Nat → Int) (bb : List Nat), k ≤ 8 ∧ gk = 8 - k ∧ iv = .int .i64 k ∧ OutS T (headB ++ ents sm (offs ln) ln k) bb bv w W ∧ 140 + bb.length = offs ln k ∧ ∀ b ∈ bb, b < 256)
      case atStart => exact ⟨0, _, [], by omega, rfl, rfl, H0.out, rfl, by simp⟩
      case round =>
        obtain ⟨k, sm, bb, hk, hgk, rfl, ho, hbl, hby⟩ := hrel
        have HK := Lib.hid hgk
        obtain ⟨A, vcap, hvv⟩ := own_slice ho.own
        subst hvv
        have HOO := Lib.hid (And.intro ho (And.intro hbl hby))
        clear hgk ho hbl hby
        by_cases hlt : k < 8
        · have kk : (k : Int) < 8 := by omega
          obtain ⟨g, cp, bt, r1, r2, r3, r4', r5, r6, r7⟩ := H.out.row k hlt
          have ht1 := below_cell HOO.out.1.below (H.out.tag k hlt)
          have hr1 := below_cell HOO.out.1.below r1
          obtain ⟨s, hs⟩ : ∃ s, s = tag k := ⟨_, rfl⟩
          rw [← hs] at ht1
          have HS := Lib.hid hs
          obtain ⟨n, hn⟩ : ∃ n, n = ln k := ⟨_, rfl⟩
          have hlen := H.out.len k hlt
          rw [← hn] at hr1 hlen
          have HN := Lib.hid hn
          have HR := Lib.hid (And.intro r2 (And.intro r3 (And.intro r4' r5)))
          have HRB := Lib.hid (fun (t : Nat) (ht : t < n) => show ∃ b : Nat, b < 256 ∧ wr.cell? ⟨g, t, none⟩ = some (.int .u8 (b : Nat)) from by
            obtain ⟨b, hb⟩ : ∃ b, bt[t]? = some b := ⟨_, List.getElem?_eq_getElem (by omega)⟩
            exact ⟨b, r3 b (List.mem_of_getElem? hb), below_cell HOO.out.1.below (r4' t b hb)⟩)
          clear r1 r2 r3 r4' r5 hs hn
          obtain ⟨w5, rfl⟩ : ∃ w5 : World, w5 = wr := ⟨_, rfl⟩
          go_wp2_with fail
          go_loopg [14, 52] (n) (fun gk sv iv W => ∃ (j : Nat) (s : Int), j ≤ n ∧ gk = n - j ∧ iv = .int .i64 j ∧ sv = .int .u32 s ∧ 0 ≤ s ∧ s < 4294967296 ∧ W = w5)
          case atStart => exact ⟨0, 0, by omega, rfl, rfl, rfl, by omega, by omega, rfl⟩
          case round =>
            obtain ⟨j, sm1, hj, hgj, rfl, rfl, hs0, hs1, rfl⟩ := hrel
            have HJ := Lib.hid hgj
            clear hgj
            by_cases hjn : j < n
            · have jj : (j : Int) < n := by omega
              obtain ⟨b, hb, cb⟩ := HRB.out j hjn
              obtain ⟨m, r, hjm, hr4⟩ : ∃ m r, j = 4 * m + r ∧ r < 4 := ⟨j / 4, j % 4, by omega, by omega⟩
              have hr : r = 0 ∨ r = 1 ∨ r = 2 ∨ r = 3 := by omega
              have htm : Int.tmod (j : Int) 4 = r := by rw [Int.tmod_eq_emod_of_nonneg (by omega)]; omega
              clear hjm hr4 m
              go_cut [14, 52] (fun sv iv W => (∃ s : Int, sv = .int .u32 s ∧ 0 ≤ s ∧ s < 4294967296) ∧ iv = .int .i64 ((j + 1 : Nat) : Int) ∧ W = wr)
              case first =>
                rcases hr with rfl | rfl | rfl | rfl
                all_goals
                  go_wp2_with fail
                  go_meet
                  case rel => exact ⟨⟨_, rfl, by omega, by omega⟩, by go_num, rfl⟩
              case rest =>
                obtain ⟨⟨s2, rfl, a0, a1⟩, rfl, rfl⟩ := hcut
                go_wp2_with fail
                go_roundg (n - (j + 1))
                case measure => rw [HJ.out]; omega
                case rel => exact ⟨j + 1, s2, by omega, rfl, rfl, rfl, a0, a1, rfl⟩
            · have jj : ¬ (j : Int) < n := by omega
              have hob : 140 + bb.length ≤ 9000 ∧ 140 ≤ offs ln k := by
                have h1 := offs_le ln (fun i hi => (H.out.len i hi).2) (show k ≤ 8 by omega)
                have h2 := HOO.out.2.1
                omega
              have he := ents_len sm (offs ln) ln (show k ≤ 8 by omega)
              have hh : (headB ++ ents sm (offs ln) ln k).length = 12 + 16 * k := by rw [List.length_append, he, headB_is]; simp
              have HTX := Lib.hid (show Calls Tryz.prog 46 #[.pointer (some ⟨T, 0, none⟩), .string s] wr (fun e w' => e = .returned (.pointer (some ⟨T, 0, none⟩)) ∧ OutS T (headB ++ ents sm (offs ln) ln k ++ strBytes (tag k)) bb _ w w') from by rw [HS.out]; exact text_o T _ bb _ k w _ hlt (by omega) HOO.out.1)
              have HOB := Lib.hid (And.intro hob hh)
              have hwr1 : IntKind.i64.wrap (140 + (bb.length : Int)) = 140 + bb.length := IntWalk.i64_in _ (by omega)
              clear HJ he hh hob
              go_wp2_with fail
              with_reducible refine HTX.out.mono ?_
              rintro e w6 ⟨rfl, h6⟩
              have HL6 := Lib.hid (long_o T _ bb _ sm1 w w6 hs0 (by omega) (by have := HOB.out.2; rw [List.length_append, this]; simp [strBytes_len, tags_size k hlt]; omega) h6)
              clear h6 HTX
              go_wp2_with fail
              with_reducible refine HL6.out.mono ?_
              rintro e w7 ⟨rfl, h7⟩
              have HL7 := Lib.hid (long_o T _ bb _ (140 + (bb.length : Int)) w w7 (by omega) (by have := HOB.out.1; omega) (by have := HOB.out.2; rw [List.length_append, List.length_append, this, shorts_len]; simp [strBytes_len, tags_size k hlt]; omega) h7)
              clear h7 HL6
              go_wp2_with fail
              with_reducible refine HL7.out.mono ?_
              rintro e w8 ⟨rfl, h8⟩
              have HL8 := Lib.hid (long_o T _ bb _ (n : Int) w w8 (by omega) (by omega) (by have := HOB.out.2; rw [List.length_append, List.length_append, List.length_append, this, shorts_len, shorts_len]; simp [strBytes_len, tags_size k hlt]; omega) h8)
              clear h8 HL7
              go_wp2_with fail
              with_reducible refine HL8.out.mono ?_
              rintro e w9 ⟨rfl, h9⟩
              have h10 : OutS T (headB ++ ents (fun i => if i = k then sm1 else sm i) (offs ln) ln (k + 1)) bb (.slice A bb.length vcap) w w9 := by
                have e1 : headB ++ ents (fun i => if i = k then sm1 else sm i) (offs ln) ln (k + 1) = headB ++ ents sm (offs ln) ln k ++ strBytes (tag k) ++ shorts [sm1 / 65536, sm1] ++ shorts [(140 + (bb.length : Int)) / 65536, 140 + (bb.length : Int)] ++ shorts [(n : Int) / 65536, (n : Int)] := by
                  have e2 : ents (fun i => if i = k then sm1 else sm i) (offs ln) ln k = ents sm (offs ln) ln k := by
                    refine ents_congr (fun i hi => ?_)
                    rw [if_neg (by omega)]
                  rw [ents_succ, e2]
                  unfold entB
                  rw [if_pos rfl, ← HOO.out.2.1, HN.out]
                  simp only [List.append_assoc, Int.natCast_add]
                  rfl
                rw [e1]
                exact h9
              have H10 := Lib.hid h10
              have hown9 := h10.own
              have hbcell : ∀ t u, (byteCells bt)[t]? = some u → w9.cell? ((⟨g, 0, none⟩ : Addr).add t) = some u := fun t u hu => by
                rw [Addr.add_lit, Nat.zero_add]
                unfold byteCells at hu
                rw [List.getElem?_map] at hu
                obtain ⟨b, hb, rfl⟩ := Option.map_eq_some_iff.1 hu
                exact below_cell h10.below (HR.out.2.2.1 t b hb)
              have HBC := Lib.hid hbcell
              have hsz9 := h10.below.size
              have hbtl : (byteCells bt).length = n * 1 := by simp [byteCells, HR.out.1, HN.out]
              obtain ⟨i0, hi, hz0, hz1, hz2⟩ := info_parts info5
              clear h10 h9 HL8 hbcell
              go_wp2_with (at_builtin; go_must (refine wpList_append_own_at _ rfl (.tmp 84) (.tmp 85) 24 rfl w.heap.size 5 i0 (.int .u8 0) 1 1 Tryz.underlying24 hi hz0 hz1 hz2 rfl (by decide) _ _ _ rfl hown9 ⟨g, 0, none⟩ n cp (byteCells bt) rfl hbtl HBC.out (byteCells_one bt) ?_ ?_ hsz9 ?_))
              · have := HOB.out.1; unfold maxLen; omega
              · have := HOB.out.1; omega
              intro v2 w10 hown2 hg2 _ hat2
              have h11 := H10.out.more (new := bt) (by rw [HR.out.1, ← HN.out]) hown2 hg2 hat2
              have hb1l : (bb ++ bt).length = bb.length + n := by rw [List.length_append, HR.out.1, HN.out]
              obtain ⟨L, hL⟩ : ∃ L, L = bb.length + r4 n := ⟨_, rfl⟩
              have H11 := Lib.hid (And.intro h11 (And.intro hb1l (And.intro hL (byte_append HOO.out.2.2 HR.out.2.1))))
              clear h11 hb1l hL hown2 hg2 hat2 hown9 hbtl hi hz0 hz1 hz2 H10 HBC
              go_wp2_with fail
              go_loopg [11] (L + 1 - (bb ++ bt).length) (fun gk bv W => ∃ bb2 : List Nat, gk = L + 1 - bb2.length ∧ OutS T (headB ++ ents (fun i => if i = k then sm1 else sm i) (offs ln) ln (k + 1)) bb2 bv w W ∧ (∀ b ∈ bb2, b < 256) ∧ bb2.length ≤ L ∧ L < bb2.length + 4)
              case atStart =>
                obtain ⟨q1, q2, q3, q4⟩ := H11.out
                have h4 : n ≤ r4 n ∧ r4 n < n + 4 := by unfold r4; omega
                exact ⟨bb ++ bt, rfl, q1, q4, by omega, by omega⟩
              case round =>
                obtain ⟨bb2, hg2, ho2, hy2, hl2, hl3⟩ := hrel
                obtain ⟨A2, cap2, hv2⟩ := own_slice ho2.own
                subst hv2
                have HG2 := Lib.hid hg2
                have HO2 := Lib.hid (And.intro ho2 (And.intro hy2 (And.intro hl2 hl3)))
                have hL4 : L % 4 = 0 ∧ L ≤ 20000 := by
                  obtain ⟨q1, q2, q3, q4⟩ := H11.out
                  have h1 := offs_le ln (fun i hi => (H.out.len i hi).2) (show k ≤ 8 by omega)
                  have h2 := HOO.out.2.1
                  have h3 := HOB.out.1
                  have h4 : r4 n % 4 = 0 ∧ r4 n < n + 4 := by unfold r4; omega
                  omega
                have HL4 := Lib.hid hL4
                have htm : Int.tmod (bb2.length : Int) 4 = ((bb2.length % 4 : Nat) : Int) := by rw [Int.tmod_eq_emod_of_nonneg (by omega)]; omega
                clear hg2 ho2 hy2 hl2 hl3 hL4
                by_cases hz : bb2.length % 4 = 0
                · have HZ := Lib.hid hz
                  rw [hz] at htm
                  clear hz
                  go_wp2_with fail
                  go_roundg (8 - (k + 1))
                  case measure => rw [HK.out]; omega
                  case rel =>
                    obtain ⟨q1, q2, q3, q4⟩ := H11.out
                    obtain ⟨p1, p2, p3, p4⟩ := HO2.out
                    refine ⟨k + 1, _, bb2, by omega, rfl, by go_num, p1, ?_, p2⟩
                    show 140 + bb2.length = offs ln k + r4 (ln k)
                    have h1 := HL4.out
                    have h2 := HZ.out
                    have h3 := HOO.out.2.1
                    rw [← HN.out]
                    omega
                · obtain ⟨z, hz'⟩ : ∃ z : Nat, z = bb2.length % 4 := ⟨_, rfl⟩
                  rw [← hz'] at htm hz
                  have hzi : ¬ (z : Int) = 0 := by omega
                  have HZ := Lib.hid hz'
                  clear hz'
                  obtain ⟨i0, hi, hz0, hz1, hz2⟩ := info_parts info5
                  have hown9 := HO2.out.1.own.alloc (.cells #[.int .u8 0] 5)
                  have hsz9 := HO2.out.1.below.size
                  have hbn : bb2.length ≤ 20000 := by have := HL4.out; have := HO2.out.2.2.1; omega
                  go_wp2_with (at_builtin; go_must (refine wpList_append_own_at _ rfl (.tmp 91) (.tmp 92) 24 rfl w.heap.size 5 i0 (.int .u8 0) 1 1 Tryz.underlying24 hi hz0 hz1 hz2 rfl (by decide) _ _ _ rfl hown9 ⟨wr.heap.size, 0, none⟩ 1 1 (byteCells [0]) rfl rfl (cell_one_new wr (.int .u8 0) 5) (byteCells_one [0]) (by unfold maxLen; omega) (by omega) (by rw [World.size_alloc]; omega) ?_))
                  intro v3 w11 hown3 hg3 _ hat3
                  have h12 := (HO2.out.1.later ((Below.refl _ _).alloc (Nat.le_refl _) (.cells #[.int .u8 0] 5))).more (new := [0]) rfl hown3 hg3 (by rw [World.size_alloc]; exact hat3)
                  have H12 := Lib.hid h12
                  clear h12 hown3 hg3 hat3 hown9 hi hz0 hz1 hz2
                  go_wp2_with fail
                  go_roundg (L + 1 - (bb2.length + 1))
                  case measure =>
                    rw [HG2.out]
                    have := HO2.out.2.2
                    omega
                  case rel =>
                    obtain ⟨p1, p2, p3, p4⟩ := HO2.out
                    have h1 := HL4.out
                    have h2 := HZ.out
                    refine ⟨bb2 ++ [0], by simp, H12.out, byte_append p2 (by simp), ?_, ?_⟩
                    · rw [List.length_append, List.length_singleton]; omega
                    · rw [List.length_append, List.length_singleton]; omega
        · have hk8 : k = 8 := by omega
          subst hk8
          have kk : ¬ ((8 : Nat) : Int) < 8 := by omega
          obtain ⟨v, ht, hdis⟩ := HOO.out.1.tab
          have h8 := ents_len sm (offs ln) ln (Nat.le_refl 8)
          have hh : (headB ++ ents sm (offs ln) ln 8).length = 140 := by rw [List.length_append, h8, headB_is]; rfl
          have hown := ht.own
          rw [hh] at hown
          obtain ⟨gt, capt, curt, rfl, hgt, _⟩ := own_form hown (by omega)
          have hc := ht.cell
          have h0 := offs_mono ln (show 0 < 8 by omega)
          have h00 : offs ln 0 = 140 := rfl
          have hp0 := H.out.len 0 (by omega)
          have hof := offs_le ln (fun i hi => (H.out.len i hi).2) (Nat.le_refl 8)
          have hbb : 0 < bb.length ∧ bb.length ≤ 9000 := by have := HOO.out.2.1; omega
          obtain ⟨gb, capb, curb, hvb, hgb, _⟩ := own_form HOO.out.1.own hbb.1
          injection hvb with hA _ hcb
          subst hA
          subst hcb
          have hbc : ∀ t u, (byteCells bb)[t]? = some u → wr.cell? ((⟨gb, 0, none⟩ : Addr).add t) = some u := fun t u hu => by
            rw [Addr.add_lit, Nat.zero_add]
            exact own_reads HOO.out.1.own t u hu
          have HBC := Lib.hid hbc
          have hbl1 : (byteCells bb).length = bb.length * 1 := by simp [byteCells]
          obtain ⟨i0, hi, hz0, hz1, hz2⟩ := info_parts info5
          have HF := Lib.hid (And.intro hgt (And.intro hof hbb))
          have hTs := ht.size
          have HTS := Lib.hid hTs
          clear ht hdis h8 hh h0 h00 hp0 hof hgb hbc hgt
          go_wp2_with (at_builtin; go_must (refine wpList_append_own_at _ rfl (.tmp 98) (.tmp 99) 24 rfl (T + 1) 5 i0 (.int .u8 0) 1 1 Tryz.underlying24 hi hz0 hz1 hz2 rfl (by decide) _ _ _ rfl hown ⟨gb, 0, none⟩ bb.length vcap (byteCells bb) rfl hbl1 HBC.out (byteCells_one bb) (by unfold maxLen; omega) (by omega) hTs ?_))
          intro v3 w11 hown3 hg3 _ hat3
          obtain ⟨gf, capf, curf, rfl, hgf, _, hcf, hcf2, _⟩ := own_form hown3 (by omega)
          have hPut : Put ln w (.returned (.slice (some ⟨gf, 0, none⟩) (140 + bb.length) capf)) w11 := by
            obtain ⟨p1, p2, p3⟩ := HOO.out
            obtain ⟨hgt, hof, _, _⟩ := HF.out
            have hlow := p1.low
            have hown4 : w11.ownsRow (T + 1) 5 1 (.slice (some ⟨gf, 0, none⟩) (140 + bb.length) capf) (140 + bb.length) (byteCells (fileB sm (offs ln) ln bb)) := by
              unfold fileB
              rw [byteCells_append]
              exact hown3
            have hrd := own_reads hown4
            have hfl := file_len sm (offs ln) ln bb
            have hd : Dir (fileB sm (offs ln) ln bb) (offs ln) ln := dir_of sm (offs ln) ln bb p3 (fun i hi => by have := offs_mono ln hi; omega) (by omega)
            refine ⟨gf, 140 + bb.length, capf, fileB sm (offs ln) ln bb, rfl, ⟨hfl, hd.byte, fun j b hb => ?_, ⟨hcf, by unfold maxLen at hcf2; omega, by omega⟩, (hown4.lt gf rfl).2⟩, hd, ?_, by omega⟩
            · exact hrd j _ (by simp [byteCells, hb])
            · exact Kept.below p1.below (kept_of_grown hg3) p1.below.size (fun q hq e => by injection e with e; have e2 : q = gt := e; omega)
          have HP := Lib.hid hPut
          clear hPut hown3 hg3 hat3 hown hi hz0 hz1 hz2 HBC HF HTS
          go_wp2_with fail
          go_ret
          exact HP.out
end Go.Proofs.YtgggpllmgnpngaaGreatDoor.Tb
