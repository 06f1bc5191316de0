/- A file's directory, read: walked. -/
import Derived.Test.YtgggpllmgnpngaaGreatDoorTbEntry
import Derived.Test.YtgggpllmgnpngaaGreatDoorTbMap
namespace Go.Proofs.YtgggpllmgnpngaaGreatDoor.Tb
open Go Go.RowKit

/-- The bytes of an entry. -/
def eb (bs : List Nat) (i j : Nat) : Nat := bs.getD (12 + 16 * i + j) 0
/-- The tags' numbers. -/
def tagN (i : Nat) : Nat := be4 ((tags.getD i []).getD 0 0).toNat ((tags.getD i []).getD 1 0).toNat ((tags.getD i []).getD 2 0).toNat ((tags.getD i []).getD 3 0).toNat
def kTag (i : Nat) : Lit := .int .u32 (tagN i)

/-- A file's directory of eight tables. -/
structure Dir (bs : List Nat) (at_ ln : Nat → Nat) : Prop where
  head : HeadB bs
  byte : ∀ b ∈ bs, b < 256
  len : 140 ≤ bs.length ∧ bs.length ≤ 100000
  tag : ∀ i, i < 8 → num4 (eb bs i) 0 = tagN i
  off : ∀ i, i < 8 → num4 (eb bs i) 2 = at_ i
  size : ∀ i, i < 8 → num4 (eb bs i) 3 = ln i
  fit : ∀ i, i < 8 → at_ i + ln i ≤ bs.length

theorem tagN_lt : ∀ i, i < 8 → tagN i < 4294967296 := by decide +kernel
theorem tagN_inj : ∀ i, i < 8 → ∀ j, j < 8 → tagN i = tagN j → i = j := by decide +kernel
theorem kTag_key (i : Nat) (hi : i < 8) : WideAt.IsKeyLit (kTag i) := by
  have := tagN_lt i hi
  exact ((Maps.int_keyed (P := Tryz.prog) (k := 89) (q := .u32) Tryz.underlying89)).key (v := .int .u32 (tagN i)) (l := kTag i) (Maps.keyOf_int_mk Tryz.underlying89 (by simp [Lit.wf, IntKind.min, IntKind.max, IntKind.bits, IntKind.signed]; omega))

/-- The values: where each table lies. -/
def secV (at_ ln : Nat → Nat) (i : Nat) : Value := .agg #[.int .u32 (at_ i : Nat), .int .u32 (ln i : Nat), .int .u32 0]
def down (k : Nat) : List Nat := (List.range k).reverse
theorem down_succ (k : Nat) : down (k + 1) = k :: down k := by simp [down, List.range_succ]
theorem mem_down {k i : Nat} : i ∈ down k ↔ i < k := by simp [down]

/-- The loader, so many of its tables known. -/
structure OtfS (R B N cap : Nat) (bs : List Nat) (at_ ln : Nat → Nat) (w : World) (L M k : Nat) (W : World) : Prop where
  rd : Rd R B N cap (12 + 16 * k) bs W
  kept : Kept (fun q => q = R) w W
  ld0 : W.cell? ⟨L, 0, none⟩ = some (.iface 84 (.pointer (some ⟨R, 0, none⟩)))
  ld1 : W.cell? ⟨L, 1, none⟩ = some (.map (some M))
  low : w.heap.size ≤ M ∧ w.heap.size ≤ L ∧ M < W.heap.size ∧ L < W.heap.size ∧ L ≠ M
  map : ∃ D val, W.ownsMap Tryz.prog 89 hv M k D ∧ MapIs kTag val (down k) D ∧ ∀ i, i < k → val i = secV at_ ln i

theorem OtfS.later {R B N cap k L M : Nat} {bs : List Nat} {at_ ln : Nat → Nat} {w W W' : World} (h : OtfS R B N cap bs at_ ln w L M k W) (hb : Below W.heap.size W W') : OtfS R B N cap bs at_ ln w L M k W' := by
  obtain ⟨l1, l2, l3, l4, l5⟩ := h.low
  obtain ⟨D, val, m1, m2, m3⟩ := h.map
  exact ⟨h.rd.later hb, h.kept.trans (kept_of_below hb) (fun _ _ h => h.elim), below_cell hb h.ld0, below_cell hb h.ld1, ⟨l1, l2, Nat.lt_of_lt_of_le l3 hb.size, Nat.lt_of_lt_of_le l4 hb.size, l5⟩, D, val, own_map_block m1 (hb.block M l3), m2, m3⟩

/-- .. with the next entry beside it. -/
structure OtfE (R B N cap : Nat) (bs : List Nat) (at_ ln : Nat → Nat) (w : World) (L M k : Nat) (s : Int) (E : Nat) (W : World) : Prop where
  rd : Rd R B N cap (12 + 16 * (k + 1)) bs W
  kept : Kept (fun q => q = R) w W
  ld0 : W.cell? ⟨L, 0, none⟩ = some (.iface 84 (.pointer (some ⟨R, 0, none⟩)))
  ld1 : W.cell? ⟨L, 1, none⟩ = some (.map (some M))
  low : w.heap.size ≤ M ∧ w.heap.size ≤ L ∧ M < W.heap.size ∧ L < W.heap.size ∧ L ≠ M
  map : ∃ D val, W.ownsMap Tryz.prog 89 hv M k D ∧ MapIs kTag val (down k) D ∧ ∀ i, i < k → val i = secV at_ ln i
  e0 : W.cell? ⟨E, 0, none⟩ = some (.int .u32 (tagN k : Nat))
  e2 : W.cell? ⟨E, 2, none⟩ = some (.int .u32 (at_ k : Nat))
  e3 : W.cell? ⟨E, 3, none⟩ = some (.int .u32 (ln k : Nat))

theorem OtfE.later {R B N cap k L M E : Nat} {s : Int} {bs : List Nat} {at_ ln : Nat → Nat} {w W W' : World} (h : OtfE R B N cap bs at_ ln w L M k s E W) (hb : Below W.heap.size W W') : OtfE R B N cap bs at_ ln w L M k s E W' := by
  obtain ⟨l1, l2, l3, l4, l5⟩ := h.low
  obtain ⟨D, val, m1, m2, m3⟩ := h.map
  exact ⟨h.rd.later hb, h.kept.trans (kept_of_below hb) (fun _ _ h => h.elim), below_cell hb h.ld0, below_cell hb h.ld1, ⟨l1, l2, Nat.lt_of_lt_of_le l3 hb.size, Nat.lt_of_lt_of_le l4 hb.size, l5⟩, ⟨D, val, own_map_block m1 (hb.block M l3), m2, m3⟩, below_cell hb h.e0, below_cell hb h.e2, below_cell hb h.e3⟩

theorem OtfS.entered {R B N cap k L M : Nat} {s : Int} {bs : List Nat} {at_ ln : Nat → Nat} {w W w4 : World} (h : OtfS R B N cap bs at_ ln w L M k W) (h1 : Rd R B N cap (12 + 16 * (k + 1)) bs w4) (h2 : Kept (fun q => q = R) W w4) :
    OtfE R B N cap bs at_ ln w L M k s w4.heap.size (w4.alloc (.cells #[.int .u32 (tagN k : Nat), .int .u32 s, .int .u32 (at_ k : Nat), .int .u32 (ln k : Nat)] 198)) := by
  obtain ⟨l1, l2, l3, l4, l5⟩ := h.low
  obtain ⟨D, val, m1, m2, m3⟩ := h.map
  have hRw := h.rd.low.1
  have hL : ¬ L = R := fun e => by
    have a := h.ld0
    have b := h.rd.src
    rw [e] at a
    rw [a] at b
    simp at b
  have hM : ¬ M = R := fun e => by
    obtain ⟨es, clock, hb, _⟩ := m1
    have b := h.rd.src
    rw [e] at hb
    simp [World.cell?, hb] at b
  have hb : Below w4.heap.size w4 (w4.alloc (.cells #[.int .u32 (tagN k : Nat), .int .u32 s, .int .u32 (at_ k : Nat), .int .u32 (ln k : Nat)] 198)) := (Below.refl _ _).alloc (Nat.le_refl _) _
  have hn := heap_alloc_new w4 (.cells #[.int .u32 (tagN k : Nat), .int .u32 s, .int .u32 (at_ k : Nat), .int .u32 (ln k : Nat)] 198)
  have hs := h2.size
  have hs2 := hb.size
  exact ⟨h1.later hb, (h.kept.trans h2 (fun _ _ h => h)).trans (kept_of_below hb) (fun _ _ h => h.elim), below_cell hb (h2.cell h.ld0 hL), below_cell hb (h2.cell h.ld1 hL), ⟨l1, l2, by omega, by omega, l5⟩, ⟨D, val, own_map_block (own_map_block m1 (h2.block M l3 hM)) (hb.block M (by omega)), m2, m3⟩, by rw [cell_in hn]; rfl, by rw [cell_in hn]; rfl, by rw [cell_in hn]; rfl⟩

theorem entry_dir (R B N cap k : Nat) (bs : List Nat) (at_ ln : Nat → Nat) (w : World) (hd : Dir bs at_ ln) (hk : k < 8) (h : Rd R B N cap (12 + 16 * k) bs w) :
    Calls Tryz.prog 107 #[.iface 84 (.pointer (some ⟨R, 0, none⟩))] w fun e w' => (∃ s : Int, e = .returned (.tuple #[.agg #[.int .u32 (tagN k : Nat), .int .u32 s, .int .u32 (at_ k : Nat), .int .u32 (ln k : Nat)], .nilIface])) ∧ Rd R B N cap (12 + 16 * (k + 1)) bs w' ∧ Kept (fun q => q = R) w w' := by
  have hl := hd.len
  have hN := h.len
  refine (entry_any R B N cap (12 + 16 * k) bs (eb bs k) w h (by omega) (fun j hj => ?_)).mono ?_
  · unfold eb
    rw [List.getD_eq_getElem?_getD, List.getElem?_eq_getElem (by omega)]
    rfl
  · rintro e w' ⟨rfl, h1, h2⟩
    refine ⟨⟨(num4 (eb bs k) 1 : Nat), ?_⟩, h1, h2⟩
    rw [← hd.tag k hk, ← hd.off k hk, ← hd.size k hk]
    rfl

def Loaded (R B N cap : Nat) (bs : List Nat) (at_ ln : Nat → Nat) (w : World) (e : Ending) (w' : World) : Prop :=
  ∃ L M, e = .returned (.tuple #[.pointer (some ⟨L, 0, none⟩), .nilIface]) ∧ OtfS R B N cap bs at_ ln w L M 8 w'
theorem make_map (W : World) : (Instr.makeMap 121 (some (.int .u16 8))).run Tryz.prog W = .ok (.map (some W.heap.size)) (W.alloc (.map #[] 0)) := by kernel_rfl

theorem look_tag {W : World} {M k n : Nat} {D : DataW Value} (h : W.ownsMap Tryz.prog 89 hv M n D) (hno : Maps.has D (.int .u32 (tagN k)) = false) (hk : k < 8) :
    (Instr.lookup 121 (.map (some M)) (.int .u32 (tagN k : Nat)) true).run Tryz.prog W = .ok (.tuple #[.agg #[.int .u32 0, .int .u32 0, .int .u32 0], .bool false]) W := by
  obtain ⟨es, clock, hb, F, _, rfl⟩ := h
  have hlt := tagN_lt k hk
  have hkey : keyOf Tryz.prog 89 (.int .u32 (tagN k : Nat)) = some (.int .u32 (tagN k)) := Maps.keyOf_int_mk Tryz.underlying89 (by simp [Lit.wf, IntKind.min, IntKind.max, IntKind.bits, IntKind.signed]; omega)
  rcases Maps.fit_look true (Maps.int_keyed Tryz.underlying89) Tryz.underlying121 (z := .agg #[.int .u32 0, .int .u32 0, .int .u32 0]) (by kernel_rfl) hb F hkey with ⟨hrun, _, hat⟩ | ⟨e0, y, _, _, hrun, hRv, hat, _⟩
  · exact hrun
  · rw [Maps.has_true_of_atKey hat] at hno
    exact absurd hno (by simp)

set_option maxRecDepth 1000000 in
set_option maxHeartbeats 8000000 in
theorem otf_any (R B N cap : Nat) (bs : List Nat) (at_ ln : Nat → Nat) (i0 : Nat) (w : World) (hd : Dir bs at_ ln) (h : Rd R B N cap i0 bs w) :
    Calls Tryz.prog 77 #[.iface 84 (.pointer (some ⟨R, 0, none⟩)), .int .u32 0, .bool false] w (Loaded R B N cap bs at_ ln w) := by
  have HS := Lib.hid (seek_any R B N cap i0 bs w h)
  have HD := Lib.hid hd
  have hme : ∀ W, (method 360 84 (.pointer (some ⟨R, 0, none⟩)) "Seek").run Tryz.prog W = .ok (162, .pointer (some ⟨R, 0, none⟩)) W := fun W => method_seek R W
  have HLEN := Lib.hid h.len
  have hmm : ∀ W, (Instr.makeMap 121 (some (.int .u16 8))).run Tryz.prog W = .ok (.map (some W.heap.size)) (W.alloc (.map #[] 0)) := make_map
  have hl := hd.len
  clear h hd
  go_enter Tryz.func77, Tryz.ntmps77
  go_wp2_with fail
  with_reducible refine HS.out.mono ?_
  rintro e w1 ⟨rfl, h1, h2⟩
  have HH := Lib.hid (header_any R B N cap bs w1 h1 HD.out.head (by have := HLEN.out; omega))
  have HK1 := Lib.hid h2
  clear h1 h2 HS
  go_wp2_with fail
  with_reducible refine HH.out.mono ?_
  rintro e w2 ⟨rfl, h1, h2⟩
  have HK2 := Lib.hid (HK1.out.trans h2 (fun _ _ h => h))
  have HR2 := Lib.hid h1
  clear h1 h2 HH HK1 hme
  go_upto_region 8 with fail
  obtain ⟨w3, hw3⟩ : ∃ w3, w3 = (w2.alloc (.map #[] 0)).alloc (.cells #[.iface 84 (.pointer (some ⟨R, 0, none⟩)), .map (some w2.heap.size), .int .u32 65536] 123) := ⟨_, rfl⟩
  have h3 : OtfS R B N cap bs at_ ln w (w2.heap.size + 1) w2.heap.size 0 w3 := by
    have hb : Below w2.heap.size w2 w3 := by rw [hw3]; exact ((Below.refl _ _).alloc (Nat.le_refl _) _).alloc (by simp) _
    have hn : w3.heap[w2.heap.size + 1]? = some (.cells #[.iface 84 (.pointer (some ⟨R, 0, none⟩)), .map (some w2.heap.size), .int .u32 65536] 123 (0, 0)) := by
      rw [hw3]
      have := heap_alloc_new (w2.alloc (.map #[] 0)) (.cells #[.iface 84 (.pointer (some ⟨R, 0, none⟩)), .map (some w2.heap.size), .int .u32 65536] 123)
      rwa [World.size_alloc] at this
    have hs := HK2.out.size
    refine ⟨HR2.out.later hb, HK2.out.trans (kept_of_below hb) (fun _ _ h => h.elim), by rw [cell_in hn]; rfl, by rw [cell_in hn]; rfl, ⟨hs, by omega, by rw [hw3]; simp; omega, by rw [hw3]; simp, by omega⟩, .map [], fun _ => undef, ?_, MapIs.nil _ _, fun i hi => by omega⟩
    exact own_map_block (World.ownsMap_made w2 Tryz.prog 89 hv) (by rw [hw3, Below.heap_alloc _ _ _ (by simp)])
  rw [← hw3]
  have H3 := Lib.hid h3
  obtain ⟨L, hL⟩ : ∃ L, L = w2.heap.size + 1 := ⟨_, rfl⟩
  obtain ⟨M, hM⟩ : ∃ M, M = w2.heap.size := ⟨_, rfl⟩
  rw [← hL, ← hM] at H3
  rw [← hL, ← hM]
  clear hL hM h3 hw3 HK2 HR2 hmm
  go_wp2_with fail
  go_loopg [13] (8) (fun gk iv W => ∃ k : Nat, k ≤ 8 ∧ gk = 8 - k ∧ iv = .int .i64 k ∧ OtfS R B N cap bs at_ ln w L M k W)
  case atStart => exact ⟨0, by omega, rfl, rfl, H3.out⟩
  case round =>
    obtain ⟨k, hk, hgk, rfl, hs⟩ := hrel
    have HK := Lib.hid hgk
    have HSS := Lib.hid hs
    by_cases hlt : k < 8
    · have HE := Lib.hid (entry_dir R B N cap k bs at_ ln wr HD.out hlt hs.rd)
      have kk : (k : Int) < 8 := by omega
      clear hgk hs
      go_wp2_with fail
      with_reducible refine HE.out.mono ?_
      rintro e w4 ⟨⟨s, rfl⟩, h1, h2⟩
      obtain ⟨w5, hw5⟩ : ∃ w5, w5 = w4.alloc (.cells #[.int .u32 (tagN k : Nat), .int .u32 s, .int .u32 (at_ k : Nat), .int .u32 (ln k : Nat)] 198) := ⟨_, rfl⟩
      have h5 : OtfE R B N cap bs at_ ln w L M k s w4.heap.size w5 := by rw [hw5]; exact HSS.out.entered h1 h2
      have H5 := Lib.hid h5
      have HW5 := Lib.hid hw5
      obtain ⟨E, hE⟩ : ∃ E, E = w4.heap.size := ⟨_, rfl⟩
      rw [← hE] at H5
      have HEE := Lib.hid hE
      clear h1 h2 h5 hw5 hE HE
      go_upto_region 12 with fail
      rw [← HW5.out]
      rw [← HEE.out]
      go_upto_region 14 with fail
      obtain ⟨D, val, m1, m2, m3⟩ := H5.out.map
      have hno : Maps.has D (.int .u32 (tagN k)) = false := m2.no (fun j hj e => by
        have hj := mem_down.1 hj
        unfold kTag at e
        injection e with _ e
        have := tagN_inj k hlt j (by omega) (by exact_mod_cast e)
        omega)
      have ha := H5.out.later ((Below.refl _ _).alloc (Nat.le_refl _) (.cells #[.int .u32 0, .int .u32 0, .int .u32 0] 167))
      have hz5 := look_tag (W := w5.drew) m1 hno hlt
      have hz6 := look_tag (W := (w5.alloc (.cells #[.int .u32 0, .int .u32 0, .int .u32 0] 167)).drew) (own_map_block m1 (w' := w5.alloc (.cells #[.int .u32 0, .int .u32 0, .int .u32 0] 167)) (Below.heap_alloc _ _ _ H5.out.low.2.2.1)) hno hlt
      have l0 := H5.out.ld1
      have e0 := H5.out.e0
      have l1 := ha.ld1
      have e1 := ha.e0
      clear hno m1 m2 m3
      obtain ⟨w8, hw8⟩ : ∃ w8, w8 = w5.alloc (.cells #[.int .u32 0, .int .u32 0, .int .u32 0] 167) := ⟨_, rfl⟩
      have HA := Lib.hid ha
      clear ha
      go_cut [17] (fun bv W => bv = .bool false ∧ OtfE R B N cap bs at_ ln w L M k s E W)
      case first =>
        go_region
        all_goals (go_wp2_with fail; go_meet)
        all_goals exact ⟨rfl, HA.out.later (Below.refl _ _).drew⟩
      case rest =>
      obtain ⟨rfl, h9⟩ := hcut
      have l0 := h9.ld1
      have e0 := h9.e0
      have e2 := h9.e2
      have e3 := h9.e3
      have H9 := Lib.hid h9
      clear h9 hw8 HA H5
      go_upto_region 21 with fail
      obtain ⟨w8, hw8⟩ : ∃ w8, w8 = wc.alloc (.cells #[.int .u32 (at_ k : Nat), .int .u32 (ln k : Nat), .int .u32 0] 167) := ⟨_, rfl⟩
      obtain ⟨T, hT⟩ : ∃ T, T = wc.heap.size := ⟨_, rfl⟩
      have h8 : OtfE R B N cap bs at_ ln w L M k s E w8 := by rw [hw8]; exact H9.out.later ((Below.refl _ _).alloc (Nat.le_refl _) _)
      have hn8 : w8.heap[T]? = some (.cells #[.int .u32 (at_ k : Nat), .int .u32 (ln k : Nat), .int .u32 0] 167 (0, 0)) := by
        rw [hw8, hT]; exact heap_alloc_new wc _
      rw [← hw8, ← hT]
      have l0 := h8.ld1
      have e0 := h8.e0
      have t0 : w8.cell? ⟨T, 0, none⟩ = some (.int .u32 (at_ k : Nat)) := by rw [cell_in hn8]; rfl
      have t1 : w8.cell? ⟨T, 1, none⟩ = some (.int .u32 (ln k : Nat)) := by rw [cell_in hn8]; rfl
      have t2 : w8.cell? ⟨T, 2, none⟩ = some (.int .u32 0) := by rw [cell_in hn8]; rfl
      have H8 := Lib.hid h8
      obtain ⟨D, val, m1, m2, m3⟩ := h8.map
      have HM := Lib.hid (And.intro m2 m3)
      have HM1 := Lib.hid m1
      have hkl : keyOf Tryz.prog 89 (.int .u32 (tagN k : Nat)) = some (kTag k) := by
        have := tagN_lt k hlt
        exact Maps.keyOf_int_mk Tryz.underlying89 (by simp [Lit.wf, IntKind.min, IntKind.max, IntKind.bits, IntKind.signed]; omega)
      have HKL := Lib.hid hkl
      clear h8 hn8 hw8 hT H9 m1 m2 m3 hkl
      go_still_tail 7, (by kernel_rfl)
      refine wpList_mapUpdate_own _ rfl (.tmp 88) (.tmp 90) (.tmp 91) 121 rfl 89 167 (Maps.int_keyed Tryz.underlying89) Tryz.underlying121 hv M k D rfl (HM1.out : w8.drew.ownsMap Tryz.prog 89 hv M k D) (by unfold maxLen; omega) (.int .u32 (tagN k : Nat)) (secV at_ ln k) (kTag k) rfl rfl HKL.out (.held (secV at_ ln k)) [] rfl ?_
      intro w10 n1 n2
      have h10 : OtfS R B N cap bs at_ ln w L M (k + 1) w10 := by
        obtain ⟨d1, d2, d3, d4, d5⟩ := H8.out.low
        have hg := kept_of_grown n2
        have hne : ∀ q, q < w.heap.size → ¬ some q = some M := fun q hq e => by injection e with e; omega
        have hM : ∀ j x, w8.cell? ⟨M, j, none⟩ = some x → False := fun j x hx => by
          obtain ⟨es, clock, hb, _⟩ := HM1.out
          simp [World.cell?, hb] at hx
        have hRM : ¬ some R = some M := fun e => by injection e with e; subst e; exact hM _ _ H8.out.rd.src
        have hBM : ¬ some B = some M := fun e => by
          injection e with e
          subst e
          exact hM _ _ (H8.out.rd.cell 0 _ (List.getElem?_eq_getElem (by omega)))
        have hLM : ¬ some L = some M := fun e => by injection e with e; omega
        have hsz : w8.heap.size ≤ w10.heap.size := hg.size
        refine ⟨(H8.out.rd.later (Below.refl _ _).drew).kept hg hRM hBM, (H8.out.kept.trans (kept_of_below (Below.refl _ _).drew) (fun _ _ h => h.elim)).trans hg (fun q hq h => (hne q hq h).elim), hg.cell H8.out.ld0 hLM, hg.cell H8.out.ld1 hLM, ⟨d1, d2, by omega, by omega, d5⟩, _, upd val k (secV at_ ln k), n1, ?_, ?_⟩
        · rw [down_succ]
          refine HM.out.1.put_new (kTag_key k hlt) (fun j hj e => ?_) _
          have hj := mem_down.1 hj
          unfold kTag at e
          injection e with _ e
          have := tagN_inj k hlt j (by omega) (by exact_mod_cast e.symm)
          omega
        · intro i hi
          by_cases hik : i = k
          · subst hik; exact upd_same _ _ _
          · rw [upd_other _ _ hik]; exact HM.out.2 i (by omega)
      have H10 := Lib.hid h10
      clear h10 n1 n2 H8 HM1 HM HKL
      go_wp2_with fail
      go_roundg (8 - (k + 1))
      case measure => have := HK.out; omega
      case rel => exact ⟨k + 1, by omega, rfl, by go_num, H10.out⟩
    · have hk8 : k = 8 := by omega
      subst hk8
      have kk : ¬ ((8 : Nat) : Int) < 8 := by omega
      clear hgk hs
      go_wp2_with fail
      go_ret2
      exact ⟨L, M, rfl, HSS.out⟩
end Go.Proofs.YtgggpllmgnpngaaGreatDoor.Tb
