/- The regions of a store of variations written, walked. -/
import Derived.Test.YtdknpamegphjlaaLay2
import Derived.Deep.RegionLaw
namespace Go.Proofs.Ytdknpamegphjlaa.Sd
open Go Go.RowKit

theorem regs_at {S : Nat → Prop} {w : World} {A : Option Addr} {cap n : Nat} {all : List (List Ax)} (h : RegsR S w (.slice A n cap) all) {i : Nat} {r : List Ax} (hr : all[i]? = some r) :
    ∃ g A' cap', A = some ⟨g, 0, none⟩ ∧ g < w.heap.size ∧ ¬ S g ∧ w.cell? ⟨g, i, none⟩ = some (.slice A' r.length cap') ∧ AxesR S w (.slice A' r.length cap') r := by
  obtain ⟨vs, h1, h2, h3⟩ := h
  obtain ⟨u, hu⟩ : ∃ u, vs[i]? = some u := ⟨_, List.getElem?_eq_getElem (by have := (List.getElem?_eq_some_iff.1 hr).1; omega)⟩
  have h4 := h3 i u r hu hr
  have h2' := h2
  obtain ⟨A0, c0, e, _⟩ := h2
  injection e with e1 e2 e3
  subst e1 e2 e3
  obtain ⟨g, eg, hg, hS, hc⟩ := row_at h2' hu
  obtain ⟨A', cap', eu, _⟩ := h4
  rw [eu] at hc
  exact ⟨g, A', cap', eg, hg, hS, hc, by rw [← eu]; exact h3 i u r hu hr⟩
theorem axes_at {S : Nat → Prop} {w : World} {A : Option Addr} {cap n : Nat} {r : List Ax} (h : AxesR S w (.slice A n cap) r) {k : Nat} {x : Ax} (hx : r[k]? = some x) :
    ∃ g, A = some ⟨g, 0, none⟩ ∧ g < w.heap.size ∧ w.cell? ⟨g, k * 3, none⟩ = some (.int .i64 x.a) ∧ w.cell? ⟨g, k * 3 + 1, none⟩ = some (.int .i64 x.b) ∧ w.cell? ⟨g, k * 3 + 2, none⟩ = some (.int .i64 x.c) := by
  obtain ⟨a, b, c⟩ := axCells_get r k x hx
  have h' := h
  obtain ⟨A0, c0, e, _⟩ := h
  injection e with e1 e2 e3
  subst e1 e2 e3
  obtain ⟨g, eg, hg, _, ha⟩ := row_at h' a
  obtain ⟨g2, eg2, _, _, hb⟩ := row_at h' b
  obtain ⟨g3, eg3, _, _, hc⟩ := row_at h' c
  rw [eg] at eg2 eg3
  injection eg2 with eg2
  injection eg2 with eg2
  injection eg3 with eg3
  injection eg3 with eg3
  subst eg2 eg3
  exact ⟨g, eg, hg, ha, hb, hc⟩
theorem dls_at {S : Nat → Prop} {w : World} {A : Option Addr} {cap n : Nat} {l : List Dl} (h : DlsR S w (.slice A n cap) l) {i : Nat} {d : Dl} (hd : l[i]? = some d) :
    ∃ g r t, A = some ⟨g, 0, none⟩ ∧ g < w.heap.size ∧ ¬ S g ∧ w.cell? ⟨g, i * 2, none⟩ = some r ∧ w.cell? ⟨g, i * 2 + 1, none⟩ = some t ∧ IntsR S w r d.regs ∧ GridR S w t d.items := by
  obtain ⟨cs, h1, h2⟩ := h
  obtain ⟨r, t, e1, e2, hr, ht⟩ := h2 i d hd
  have h1' := h1
  obtain ⟨A0, c0, e, _⟩ := h1
  injection e with a1 a2 a3
  subst a1 a2 a3
  obtain ⟨g, eg, hg, hS, ha⟩ := row_at h1' e1
  obtain ⟨g2, eg2, _, _, hb⟩ := row_at h1' e2
  rw [eg] at eg2
  injection eg2 with eg2
  injection eg2 with eg2
  subst eg2
  exact ⟨g, r, t, eg, hg, hS, ha, hb, hr, ht⟩
theorem regs_len {S : Nat → Prop} {w : World} {v : Value} {all : List (List Ax)} (h : RegsR S w v all) : ∃ A cap, v = .slice A all.length cap ∧ all.length ≤ cap ∧ cap ≤ 9223372036854775807 := by
  obtain ⟨vs, h1, h2, h3⟩ := h
  exact h2.len
theorem dls_len {S : Nat → Prop} {w : World} {v : Value} {l : List Dl} (h : DlsR S w v l) : ∃ A cap, v = .slice A l.length cap ∧ l.length ≤ cap ∧ cap ≤ 9223372036854775807 := by
  obtain ⟨cs, h1, h2⟩ := h
  exact h1.len

theorem axNums_take {r : List Ax} {k : Nat} {x : Ax} (h : r[k]? = some x) : axNums (r.take (k + 1)) = axNums (r.take k) ++ [x.a, x.b, x.c] := by
  obtain ⟨hl, ht⟩ := List.getElem?_eq_some_iff.1 h
  rw [List.take_succ_eq_append_getElem hl, ht, axNums_snoc]
theorem regNums_take {all : List (List Ax)} {k : Nat} {r : List Ax} (h : all[k]? = some r) : regNums (all.take (k + 1)) = regNums (all.take k) ++ axNums r := by
  obtain ⟨hl, ht⟩ := List.getElem?_eq_some_iff.1 h
  rw [List.take_succ_eq_append_getElem hl, ht, regNums_snoc]
theorem axNums_len (r : List Ax) : (axNums r).length = 3 * r.length := by
  induction r with
  | nil => rfl
  | cons x r ih => simp [axNums] at ih ⊢; omega
theorem regNums_len (all : List (List Ax)) (ax : Nat) (h : ∀ r ∈ all, r.length = ax) : (regNums all).length = all.length * (3 * ax) := by
  induction all with
  | nil => simp [regNums]
  | cons r all ih =>
    have h1 := h r (by simp)
    have h2 := ih (fun y hy => h y (by simp [hy]))
    unfold regNums at h2 ⊢
    rw [List.flatMap_cons, List.length_append, h2, axNums_len, h1, List.length_cons, Nat.add_mul, Nat.one_mul, Nat.add_comm]

/-- The regions' table, and all else as it was. -/
structure RegT (w W : World) (bs : List Nat) (tv : Value) : Prop where
  tab : Tab w.heap.size (w.heap.size + 1) bs W tv
  below : Below w.heap.size w W

theorem RegT.wrote {w W W1 W2 : World} {bs bs2 : List Nat} {tv tv2 : Value} (h : RegT w W bs tv) (hb : Below W.heap.size W W1) (hw : Wrote w.heap.size (w.heap.size + 1) bs2 tv W1 tv2 W2) : RegT w W2 bs2 tv2 := by
  have hs := h.tab.size
  refine ⟨hw.tab, hw.below (h.below.trans (hb.mono (by omega))) (by have := hb.size; omega) (fun q hq => by have := (h.tab.own.lt q hq).1; omega)⟩

theorem rowBytes_take {row : List Int} {k W : Nat} {x : Int} (h : row[k]? = some x) : rowBytes W (row.take (k + 1)) = rowBytes W (row.take k) ++ (if k < W then two x else [byteOf x]) := by
  obtain ⟨hl, ht⟩ := List.getElem?_eq_some_iff.1 h
  rw [List.take_succ_eq_append_getElem hl, ht]
  unfold rowBytes
  have hk : (row.take k).length = k := by rw [List.length_take]; omega
  by_cases hW : k < W
  · rw [if_pos hW, List.take_append, List.drop_append, hk]
    rw [List.take_of_length_le (l := row.take k) (by omega), List.drop_of_length_le (l := row.take k) (by omega)]
    rw [List.take_of_length_le (l := [x]) (by simp; omega), List.drop_of_length_le (l := [x]) (by simp; omega), shorts_append]
    simp [shorts]
  · rw [if_neg hW, List.take_append_of_le_length (by omega), List.drop_append_of_le_length (by omega)]
    simp
theorem st_start {R : Nat} {A : Option Addr} {n cap : Nat} {w wb W : World} {RB hb : List Nat} {tv hv : Value} (h1 : RegT w wb RB tv) (h2 : RegT wb W hb hv) (hw : Writer R A n cap 0 w) (hR : R < w.heap.size) : St R w.heap.size wb.heap.size A n cap w RB tv hb [] hv (.slice none 0 0) 0 W := by
  have hs := h1.tab.size
  have hb := h1.below.trans (h2.below.mono (by omega))
  refine ⟨below_cell h2.below h1.tab.cell, (row_of_own h1.tab.own (fun q hq e => ?_)).below h2.below, h2.tab, World.ownsRow_nil _ _ _ _, fun q _ h => by simp [Value.ownBlock] at h, ⟨below_cell hb hw.ways, below_cell hb hw.count, ?_⟩, (kept_of_below hb).sub (fun _ _ h => h.elim), ⟨hR, Nat.le_refl _, by omega⟩⟩
  · have a := h1.tab.own.lt q hq
    rcases e with e | e <;> omega
  · rw [← hw.free]
    exact hb.frozen hR

theorem own_drew' {w : World} {base n : Nat} {e : TypeId} {size : Nat} {v : Value} {xs : List Value} (h : w.ownsRow base e size v n xs) : w.drew.ownsRow base e size v n xs := h
theorem byteCells_one (b : List Nat) : ∀ u ∈ byteCells b, u.oneCell' = true := by
  intro u hu
  unfold byteCells at hu
  obtain ⟨x, _, rfl⟩ := List.mem_map.1 hu
  rfl
theorem row_whole {S : Nat → Prop} {w : World} {A : Option Addr} {cap n : Nat} {cs : List Value} (h : Row S w (.slice A n cap) n cs) (hn : 0 < n) : ∃ g, A = some ⟨g, 0, none⟩ ∧ g < w.heap.size ∧ ¬ S g ∧ ∀ j x, cs[j]? = some x → w.cell? ⟨g, j, none⟩ = some x := by
  obtain ⟨A', cap', hv, h1, h2, h0, h3⟩ := h
  injection hv with e1 _ e3
  subst e1
  exact h3 hn
def PsOk (l : List Dl) (ps : List (Dl × Nat)) : Prop := ∀ (i : Nat) (p : Dl × Nat), ps[i]? = some p → l[i]? = some p.1 ∧ Fits p.1 p.2
theorem PsOk.snoc {l : List Dl} {ps : List (Dl × Nat)} {d : Dl} {W j : Nat} (h : PsOk l ps) (hl : ps.length = j) (hd : l[j]? = some d) (hf : Fits d W) : PsOk l (ps ++ [(d, W)]) := by
  intro i p hp
  by_cases hi : i < ps.length
  · rw [List.getElem?_append_left hi] at hp
    exact h i p hp
  · have h1 := (List.getElem?_eq_some_iff.1 hp).1
    rw [List.length_append, List.length_singleton] at h1
    have hi2 : i = ps.length := by omega
    subst hi2
    simp at hp
    subst hp
    rw [hl]
    exact ⟨hd, hf⟩
def Bytes (R ax : Nat) (all : List (List Ax)) (l : List Dl) (w : World) (e : Ending) (w' : World) : Prop :=
  ∃ (ps : List (Dl × Nat)) (g cp : Nat) (bs : List Nat), bs = storeBytes ax all ps ∧ ps.length = l.length ∧ PsOk l ps ∧ e = .returned (.slice (some ⟨g, 0, none⟩) bs.length cp) ∧ w'.ownsRow w.heap.size 5 1 (.slice (some ⟨g, 0, none⟩) bs.length cp) bs.length (byteCells bs) ∧ Kept (fun k => k = R) w w'

set_option maxRecDepth 1000000 in
set_option maxHeartbeats 8000000 in
theorem item_any (R ax m : Nat) (va vl : Value) (all : List (List Ax)) (l : List Dl) (at_ : List Int) (A : Option Addr) (n cap : Nat) (w : World) (hf : Fine all l at_ ax m) (hva : RegsR (fun q => R ≤ q) w va all) (hvl : DlsR (fun q => R ≤ q) w vl l) (hw : Writer R A n cap 0 w) (hR : R < w.heap.size) (hn : n ≤ 2147483647) (hin : ∀ W, Kept (fun k => k = R) w W → InU8 W A n) :
    Calls Try.prog 17 #[.pointer (some ⟨R, 0, none⟩), va, vl] w (Bytes R ax all l w) := by
  obtain ⟨VA, acap, rfl, ha1, ha2⟩ := regs_len hva
  obtain ⟨VL, lcap, rfl, hl1, hl2⟩ := dls_len hvl
  have HF := Lib.hid hf
  have HVA := Lib.hid hva
  have HVL := Lib.hid hvl
  have HWR := Lib.hid hw
  have HIN := Lib.hid hin
  obtain ⟨na, hna⟩ : ∃ na, na = all.length := ⟨_, rfl⟩
  obtain ⟨nl, hnl⟩ : ∃ nl, nl = l.length := ⟨_, rfl⟩
  have hna6 : 0 < na ∧ na ≤ 6 := by rw [hna]; exact ⟨hf.regs.1, hf.regs.2.1⟩
  have hnl4 : 0 < nl ∧ nl ≤ 4 := by rw [hnl]; exact ⟨hf.lists.1, hf.lists.2.1⟩
  have hax3 := hf.axl
  obtain ⟨r0, hr0⟩ : ∃ r0, all[0]? = some r0 := ⟨_, List.getElem?_eq_getElem (by omega)⟩
  have hr0l : r0.length = ax := (hf.regs.2.2 r0 (List.mem_of_getElem? hr0)).1
  obtain ⟨g, A0, c0, rfl, hg, _, e0, _⟩ := regs_at hva hr0
  rw [hr0l] at e0
  rw [← hna] at ha1 HVA ⊢
  rw [← hnl] at hl1 HVL ⊢
  have HNA := Lib.hid hna
  have HNL := Lib.hid hnl
  obtain ⟨T, hT⟩ : ∃ T, T = w.heap.size := ⟨_, rfl⟩
  have hb1 : Below w.heap.size w (w.alloc (.cells #[.slice none 0 0, .slice none 0 0] 95)) := (Below.refl _ _).alloc (Nat.le_refl _) _
  have hb2 : Below (w.alloc (.cells #[.slice none 0 0, .slice none 0 0] 95)).heap.size (w.alloc (.cells #[.slice none 0 0, .slice none 0 0] 95)) ((w.alloc (.cells #[.slice none 0 0, .slice none 0 0] 95)).alloc (.cells #[.int .i64 ax, .int .i64 na] 3)) := (Below.refl _ _).alloc (Nat.le_refl _) _
  have hS := Lib.hid (short_any w.heap.size (w.heap.size + 1) 2 [] [(ax : Int), (na : Int)] (.slice none 0 0) (.slice (some ⟨(w.alloc (.cells #[.slice none 0 0, .slice none 0 0] 95)).heap.size, 0, none⟩) 2 2) ((w.alloc (.cells #[.slice none 0 0, .slice none 0 0] 95)).alloc (.cells #[.int .i64 ax, .int .i64 na] 3)) rfl (by omega) (by intro y hy; simp at hy; omega) (by simp) ((tab_start w).later hb2)
    (row_new _ (w.alloc (.cells #[.slice none 0 0, .slice none 0 0] 95)) [.int .i64 ax, .int .i64 na] 3 2 (fun h => by have := (tab_start w).mine _ h; omega) rfl (by omega)))
  rw [World.size_alloc] at hS
  have hreg : ∀ (W2 : World) (bs2 : List Nat) (tv2 : Value), Wrote w.heap.size (w.heap.size + 1) bs2 (.slice none 0 0) ((w.alloc (.cells #[.slice none 0 0, .slice none 0 0] 95)).alloc (.cells #[.int .i64 ax, .int .i64 na] 3)) tv2 W2 → RegT w W2 bs2 tv2 := fun W2 bs2 tv2 hw => RegT.wrote ⟨tab_start w, hb1⟩ hb2 hw
  have HREG := Lib.hid hreg
  clear hreg hf hva hvl hw hin hr0 hr0l hna hnl hb1 hb2 hT
  go_enter Try.func17, Try.ntmps17
  go_wp2_with fail
  refine hS.out.mono ?_
  rintro e w1 ⟨rfl, tv, hw1⟩
  have HR1 := Lib.hid (HREG.out _ _ _ hw1)
  clear hw1 HREG hS e0
  go_upto_block 0 with fail
  go_cut [] (fun W => ∃ tv, RegT w W (regBytes ax all) tv)
  case first =>
    go_wp2_with fail
    go_loopg [37] (na) (fun gk iv W => ∃ (i : Nat) (tv : Value), gk = na - i ∧ i ≤ na ∧ iv = .int .i64 i ∧ RegT w W (shorts ([(ax : Int), (na : Int)] ++ regNums (all.take i))) tv)
    case atStart => exact ⟨0, tv, rfl, Nat.zero_le _, rfl, by simpa [regNums] using HR1.out⟩
    case round =>
      obtain ⟨i, tv, hgk, hin, rfl, hrt⟩ := hrel
      obtain ⟨wo, rfl⟩ : ∃ wo : World, wo = wr := ⟨_, rfl⟩
      have HK := Lib.hid hgk
      have HRT := Lib.hid hrt
      by_cases hlt : i < na
      · obtain ⟨r, hr⟩ : ∃ r, all[i]? = some r := ⟨_, List.getElem?_eq_getElem (by have := HNA.out; omega)⟩
        obtain ⟨hrl, hrok⟩ := HF.out.regs.2.2 r (List.mem_of_getElem? hr)
        obtain ⟨g', A', c', eg, hg', _, e0w, hax⟩ := regs_at HVA.out hr
        have e0 := below_cell hrt.below e0w
        injection eg with eg
        injection eg with eg
        subst eg
        rw [hrl] at e0 hax
        clear e0w
        have HAX := Lib.hid hax
        have HR := Lib.hid hr
        have HROK := Lib.hid hrok
        have HRL := Lib.hid hrl
        have ki : (i : Int) < na := by omega
        clear hgk hrt hr hrl hrok hax
        go_wp2_with fail
        go_loopg [43] (ax) (fun gk iv W => ∃ (k : Nat) (tv : Value), gk = ax - k ∧ k ≤ ax ∧ iv = .int .i64 k ∧ RegT w W (shorts ([(ax : Int), (na : Int)] ++ (regNums (all.take i) ++ axNums (r.take k)))) tv ∧ Below w.heap.size w W)
        case atStart => exact ⟨0, tv, rfl, Nat.zero_le _, rfl, by simpa [axNums] using HRT.out, HRT.out.below⟩
        case round =>
          obtain ⟨k, tv', hgk, hkx, rfl, hrt, hbw⟩ := hrel
          have HK2 := Lib.hid hgk
          have HRT2 := Lib.hid hrt
          by_cases hlt2 : k < ax
          · obtain ⟨x, hx⟩ : ∃ x, r[k]? = some x := ⟨_, List.getElem?_eq_getElem (by have := HRL.out; omega)⟩
            obtain ⟨g2, rfl, hg2, x0, x1, x2⟩ := axes_at (good_axes.kept HAX.out (kept_of_below hbw) (fun _ _ h => h.elim)) hx
            have hxo := HROK.out x (List.mem_of_getElem? hx)
            have hx1 := hxo.lo
            have hx2 := hxo.ab
            have hx3 := hxo.bc
            have hx4 := hxo.hi
            have hb3 : Below wr.heap.size wr (wr.alloc (.cells #[.int .i64 x.a, .int .i64 x.b, .int .i64 x.c] 48)) := (Below.refl _ _).alloc (Nat.le_refl _) _
            have hb4 : Below (wr.alloc (.cells #[.int .i64 x.a, .int .i64 x.b, .int .i64 x.c] 48)).heap.size (wr.alloc (.cells #[.int .i64 x.a, .int .i64 x.b, .int .i64 x.c] 48)) ((wr.alloc (.cells #[.int .i64 x.a, .int .i64 x.b, .int .i64 x.c] 48)).alloc (.cells #[.int .i64 x.a, .int .i64 x.b, .int .i64 x.c] 3)) := (Below.refl _ _).alloc (Nat.le_refl _) _
            have htab := (hrt.tab.later hb3)
            have hb5 : Below wr.heap.size wr ((wr.alloc (.cells #[.int .i64 x.a, .int .i64 x.b, .int .i64 x.c] 48)).alloc (.cells #[.int .i64 x.a, .int .i64 x.b, .int .i64 x.c] 3)) := hb3.trans (hb4.mono (by simp))
            have hS2 := Lib.hid (short_any w.heap.size (w.heap.size + 1) 3 (shorts ([(ax : Int), (na : Int)] ++ (regNums (all.take i) ++ axNums (r.take k)))) [x.a, x.b, x.c] tv' (.slice (some ⟨(wr.alloc (.cells #[.int .i64 x.a, .int .i64 x.b, .int .i64 x.c] 48)).heap.size, 0, none⟩) 3 3) ((wr.alloc (.cells #[.int .i64 x.a, .int .i64 x.b, .int .i64 x.c] 48)).alloc (.cells #[.int .i64 x.a, .int .i64 x.b, .int .i64 x.c] 3)) rfl (by omega) (by intro y hy; simp at hy; omega) (by
              rw [shorts_len, List.length_append, List.length_append, axNums_len, regNums_len _ ax (fun r' h' => (HF.out.regs.2.2 r' (List.mem_of_mem_take h')).1), List.length_take, List.length_take]
              have h1 : min i all.length * (3 * ax) ≤ 6 * (3 * ax) := Nat.mul_le_mul_right _ (by omega)
              simp
              omega) (htab.later hb4)
              (row_new _ (wr.alloc (.cells #[.int .i64 x.a, .int .i64 x.b, .int .i64 x.c] 48)) [.int .i64 x.a, .int .i64 x.b, .int .i64 x.c] 3 3 (fun h => by have := htab.mine _ h; omega) rfl (by omega)))
            rw [World.size_alloc] at hS2
            have hreg : ∀ (W2 : World) (bs2 : List Nat) (tv2 : Value), Wrote w.heap.size (w.heap.size + 1) bs2 tv' ((wr.alloc (.cells #[.int .i64 x.a, .int .i64 x.b, .int .i64 x.c] 48)).alloc (.cells #[.int .i64 x.a, .int .i64 x.b, .int .i64 x.c] 3)) tv2 W2 → RegT w W2 bs2 tv2 := fun W2 bs2 tv2 hw => hrt.wrote hb5 hw
            have HREG := Lib.hid hreg
            have HX := Lib.hid hx
            have kk : (k : Int) < ax := by omega
            have hsn : shorts ([(ax : Int), (na : Int)] ++ (regNums (all.take i) ++ axNums (r.take (k + 1)))) = shorts ([(ax : Int), (na : Int)] ++ (regNums (all.take i) ++ axNums (r.take k))) ++ shorts [x.a, x.b, x.c] := by
              rw [axNums_take hx, ← shorts_append]
              simp
            have HSN := Lib.hid hsn
            clear HX hgk hrt hbw hx hxo hb3 hb4 htab hb5 hreg hsn
            generalize x.a = xa at *
            generalize x.b = xb at *
            generalize x.c = xc at *
            go_wp2_with fail
            refine hS2.out.mono ?_
            rintro e w4 ⟨rfl, tv4, hw4⟩
            have HN := Lib.hid (HREG.out _ _ _ hw4)
            clear hw4 x0 x1 x2 hS2 HREG e0
            go_wp2_with fail
            go_roundg (ax - (k + 1))
            case measure => have := HK2.out; omega
            case rel => exact ⟨k + 1, tv4, rfl, by omega, by go_num, by rw [HSN.out]; exact HN.out, HN.out.below⟩
          · have hkx2 : k = ax := by omega
            have hfin : RegT w wr (shorts ([(ax : Int), (na : Int)] ++ regNums (all.take (i + 1)))) tv' := by
              rw [regNums_take HR.out]
              rwa [List.take_of_length_le (l := r) (by have := HRL.out; omega)] at hrt
            have HFIN := Lib.hid hfin
            clear hgk hrt hbw hfin e0
            go_wp2_with fail
            go_roundg (na - (i + 1))
            case measure => have := HK.out; omega
            case rel => exact ⟨i + 1, tv', rfl, by omega, by go_num, HFIN.out⟩
      · have hfin : RegT w wo (regBytes ax all) tv := by
          unfold regBytes
          rw [← HNA.out]
          rwa [List.take_of_length_le (by have := HNA.out; omega)] at hrt
        have HFIN := Lib.hid hfin
        clear hgk hrt hfin
        go_wp2_with fail
        go_meet
        case rel => exact ⟨tv, HFIN.out⟩
  case rest =>
    obtain ⟨tv, hrt⟩ := hcut
    obtain ⟨wb, rfl⟩ : ∃ wb : World, wb = wc := ⟨_, rfl⟩
    obtain ⟨RB, hRB⟩ : ∃ RB, RB = regBytes ax all := ⟨_, rfl⟩
    rw [← hRB] at hrt
    have HRB := Lib.hid hRB
    obtain ⟨TA, tcap, rfl⟩ := own_slice hrt.tab.own
    have HRT := Lib.hid hrt
    have t0 := hrt.tab.cell
    obtain ⟨q4, hq4⟩ : ∃ q4, q4 = 4 * nl := ⟨_, rfl⟩
    have hq16 : q4 ≤ 16 := by omega
    have k1 : 4 * (nl : Int) = (q4 : Int) := by omega
    have k1w : IntKind.i64.wrap (q4 : Int) = q4 := IntWalk.i64_in _ (by omega)
    have hb1 : Below wb.heap.size wb (wb.alloc (.cells #[.slice none 0 0, .slice none 0 0] 95)) := (Below.refl _ _).alloc (Nat.le_refl _) _
    have hb2 : Below (wb.alloc (.cells #[.slice none 0 0, .slice none 0 0] 95)).heap.size (wb.alloc (.cells #[.slice none 0 0, .slice none 0 0] 95)) ((wb.alloc (.cells #[.slice none 0 0, .slice none 0 0] 95)).alloc (.cells #[.int .i64 1] 3)) := (Below.refl _ _).alloc (Nat.le_refl _) _
    have hS := Lib.hid (short_any wb.heap.size (wb.heap.size + 1) 1 [] [(1 : Int)] (.slice none 0 0) (.slice (some ⟨(wb.alloc (.cells #[.slice none 0 0, .slice none 0 0] 95)).heap.size, 0, none⟩) 1 1) ((wb.alloc (.cells #[.slice none 0 0, .slice none 0 0] 95)).alloc (.cells #[.int .i64 1] 3)) rfl (by omega) (by intro y hy; simp at hy; omega) (by simp) ((tab_start wb).later hb2)
      (row_new _ (wb.alloc (.cells #[.slice none 0 0, .slice none 0 0] 95)) [.int .i64 1] 3 1 (fun h => by have := (tab_start wb).mine _ h; omega) rfl (by omega)))
    rw [World.size_alloc] at hS
    have hreg : ∀ (W2 : World) (bs2 : List Nat) (tv2 : Value), Wrote wb.heap.size (wb.heap.size + 1) bs2 (.slice none 0 0) ((wb.alloc (.cells #[.slice none 0 0, .slice none 0 0] 95)).alloc (.cells #[.int .i64 1] 3)) tv2 W2 → RegT wb W2 bs2 tv2 := fun W2 bs2 tv2 hw => RegT.wrote ⟨tab_start wb, hb1⟩ hb2 hw
    have HREG := Lib.hid hreg
    have HQ4 := Lib.hid hq4
    clear hrt hRB hreg hb1 hb2 hq4
    go_wp2_with fail
    refine hS.out.mono ?_
    rintro e w2 ⟨rfl, v2, hw2⟩
    have hr2 := HREG.out _ _ _ hw2
    have hL := Lib.hid (long_any wb.heap.size (wb.heap.size + 1) ([] ++ shorts [1]) (8 + (q4 : Int)) v2 w2 (by omega) (by omega) (by simp [shorts_len]) hr2.tab)
    have HR2 := Lib.hid hr2
    clear hw2 hr2 HREG hS
    go_wp2_with fail
    refine hL.out.mono ?_
    rintro e w3 ⟨rfl, v3, hw3⟩
    have hr3 := HR2.out.wrote (Below.refl _ _) hw3
    have hb3 : Below w3.heap.size w3 (w3.alloc (.cells #[.int .i64 nl] 3)) := (Below.refl _ _).alloc (Nat.le_refl _) _
    have hS3 := Lib.hid (short_any wb.heap.size (wb.heap.size + 1) 1 ([] ++ shorts [1] ++ shorts [(8 + (q4 : Int)) / 65536, 8 + (q4 : Int)]) [(nl : Int)] v3 (.slice (some ⟨w3.heap.size, 0, none⟩) 1 1) (w3.alloc (.cells #[.int .i64 nl] 3)) rfl (by omega) (by intro y hy; simp at hy; omega) (by simp [shorts_len]) (hr3.tab.later hb3)
      (row_new _ w3 [.int .i64 nl] 3 1 (fun h => by have := hr3.tab.mine _ h; omega) rfl (by omega)))
    have hreg : ∀ (W2 : World) (bs2 : List Nat) (tv2 : Value), Wrote wb.heap.size (wb.heap.size + 1) bs2 v3 (w3.alloc (.cells #[.int .i64 nl] 3)) tv2 W2 → RegT wb W2 bs2 tv2 := fun W2 bs2 tv2 hw => hr3.wrote hb3 hw
    have HREG := Lib.hid hreg
    clear hw3 hr3 hb3 hreg HR2 hL
    go_wp2_with fail
    refine hS3.out.mono ?_
    rintro e w4 ⟨rfl, hv, hw4⟩
    have hr4 := HREG.out _ _ _ hw4
    have e0 := below_cell hr4.below t0
    have hst := st_start HRT.out hr4 HWR.out hR
    have hhead : [] ++ shorts [1] ++ shorts [(8 + (q4 : Int)) / 65536, 8 + (q4 : Int)] ++ shorts [(nl : Int)] = headBytes nl (storeAt ax all nl) [] := by
      unfold headBytes
      rw [List.nil_append, ← shorts_append, ← shorts_append, show (8 : Int) + 4 * (nl : Int) = 8 + (q4 : Int) by omega]
      simp [offs, longs]
    rw [hhead] at hst
    have HST := Lib.hid hst
    obtain ⟨at_, hat⟩ : ∃ at_, at_ = storeAt ax all nl := ⟨_, rfl⟩
    have hatv : (8 : Int) + q4 + RB.length = (at_ : Int) := by
      rw [hat, HRB.out]
      unfold storeAt
      have := HQ4.out
      omega
    have hrbl : RB.length ≤ 1000 := by
      rw [HRB.out]
      unfold regBytes
      rw [shorts_len, List.length_append, regNums_len _ ax (fun r' h' => (HF.out.regs.2.2 r' h').1)]
      have h1 : all.length * (3 * ax) ≤ 6 * (3 * ax) := Nat.mul_le_mul_right _ (by have := HNA.out; omega)
      simp
      omega
    have hat1 : at_ ≤ 1100 := by omega
    rw [← hat] at HST
    have HAT := Lib.hid hat
    clear hw4 hr4 hst hhead t0 HREG hS3 hat
    go_upto_block 4 with fail
    go_cut [15] (fun dv W => ∃ (ps : List (Dl × Nat)) (hv : Value) (c : Nat), ps.length = nl ∧ PsOk l ps ∧ St R w.heap.size wb.heap.size A n cap w RB (.slice TA RB.length tcap) (headBytes nl at_ ps) (datas ps) hv dv c W)
    case rest =>
      obtain ⟨ps, hv', c, hpl, hps, hst⟩ := hcut
      have hl4 : 8 ≤ (headBytes nl at_ ps).length ∧ (headBytes nl at_ ps).length ≤ 100 := by
        have h1 : ∀ (ps : List (Dl × Nat)) (a : Nat), (longs (offs a ps)).length = 2 * ps.length := fun ps => by
          induction ps with
          | nil => intro a; rfl
          | cons p ps ih =>
            intro a
            have := ih (a + (dataBytes p).length)
            simp only [offs, longs, List.flatMap_cons, List.length_append, List.length_cons, List.length_nil] at this ⊢
            omega
        unfold headBytes
        rw [shorts_len, List.length_append, h1, hpl]
        simp
        omega
      have hd4 : 6 ≤ (datas ps).length ∧ (datas ps).length ≤ 264 := by
        have hb : ∀ p ∈ ps, 6 ≤ (dataBytes p).length ∧ (dataBytes p).length ≤ 66 := fun p hp => by
          obtain ⟨i, hi⟩ := List.getElem?_of_mem hp
          obtain ⟨d1, d2, d3, d4⟩ := HF.out.lists.2.2 p.1 (List.mem_of_getElem? (hps i p hi).1)
          exact dataBytes_len p m d3 HF.out.num.2 d1 (fun row h => (d4 row h).1)
        refine ⟨?_, ?_⟩
        · cases ps with
          | nil => simp at hpl; omega
          | cons p ps =>
            have := (hb p (by simp)).1
            unfold datas
            rw [List.flatMap_cons, List.length_append]
            omega
        · have := flat_le dataBytes 66 ps (fun p hp => (hb p hp).2)
          unfold datas
          omega
      have hr4 : 4 ≤ RB.length := by
        rw [HRB.out]
        unfold regBytes
        rw [shorts_len, List.length_append]
        simp
        omega
      have hbs : storeBytes ax all ps = headBytes nl at_ ps ++ RB ++ datas ps := by
        unfold storeBytes
        rw [hpl, HAT.out, HRB.out]
      obtain ⟨hl, hhl⟩ : ∃ hl, hl = (headBytes nl at_ ps).length := ⟨_, rfl⟩
      obtain ⟨dl, hdl⟩ : ∃ dl, dl = (datas ps).length := ⟨_, rfl⟩
      obtain ⟨rbl, hrbl⟩ : ∃ rbl, rbl = RB.length := ⟨_, rfl⟩
      obtain ⟨gh, hcap, _, rfl, _, _, _, _, _, _⟩ := own_form hst.head.own (by omega)
      obtain ⟨gd, dcap, _, rfl, _, _, _, _, _, _⟩ := own_form hst.data (by omega)
      obtain ⟨gr, er, hgr, hgrS, hgrc⟩ := row_whole hst.regs (by omega)
      subst er
      have c0 := hst.head.cell
      have c1 := hst.reg
      have hown1 := hst.head.own
      have hown2 := hst.data
      rw [← hhl] at c0 hown1 hl4
      rw [← hdl] at hown2 hd4
      rw [← hrbl] at c1 hr4
      have hnews1 : ∀ (q : Nat) (u : Value), (byteCells RB)[q]? = some u → wc.drew.cell? ((⟨gr, 0, none⟩ : Addr).add q) = some u := fun q u hu => by
        rw [Addr.add_lit, Nat.zero_add]
        exact hgrc q u hu
      have hdis : some gd ≠ (Value.slice (some ⟨gh, 0, none⟩) hl hcap).ownBlock := fun e => by
        have e2 : gd = gh := Option.some.inj e
        exact hst.disj gh rfl (by rw [e2]; rfl)
      have hnews2 : ∀ w1 : World, wc.drew.grownBy w1 (Value.slice (some ⟨gh, 0, none⟩) hl hcap).ownBlock → ∀ (q : Nat) (u : Value), (byteCells (datas ps))[q]? = some u → w1.cell? ((⟨gd, 0, none⟩ : Addr).add q) = some u := fun w1 hg q u hu => by
        have hq := (List.getElem?_eq_some_iff.1 hu).1
        have h0 : wc.cell? ⟨gd, q, none⟩ = some u := by
          rw [hst.data.cellAt q (by simpa [byteCells] using hq)]
          exact hu
        rw [Addr.add_lit, Nat.zero_add]
        exact hg.cell (a := ⟨gd, q, none⟩) h0 hdis
      have HD1 := Lib.hid hnews1
      have HD2 := Lib.hid hnews2
      have HOWN1 := Lib.hid (own_drew' hown1)
      have HST5 := Lib.hid hst
      have HPS := Lib.hid hps
      have HPL := Lib.hid hpl
      have HBS := Lib.hid hbs
      have HHL := Lib.hid hhl
      have HDL := Lib.hid hdl
      have HRL := Lib.hid hrbl
      have hlr : (byteCells RB).length = rbl * 1 := by simp [byteCells, hrbl]
      have hld : (byteCells (datas ps)).length = dl * 1 := by simp [byteCells, hdl]
      have HLR := Lib.hid hlr
      have HLD := Lib.hid hld
      have hsw : wb.heap.size + 1 ≤ wc.heap.size := hst.head.size
      have hrb2 : rbl ≤ 1000 := by omega
      obtain ⟨i5, j5, j5z, j5a, j5b⟩ := info_parts info5
      rw [← hdl]
      clear hhl hdl hrbl hpl hps hst hbs hgrc hnews1 hnews2 hown1 hown2 hlr hld HR1 HST
      go_upto_region 36 with fail
      go_region_law (first
        | (refine step_append_lies _ (by rfl) (.tmp 170) (.tmp 174) _ (by rfl) (wb.heap.size + 1) 5 i5 (.int .u8 0) 1 1 Try.underlying26 j5 j5z j5a j5b rfl (by omega) (.slice (some ⟨gh, 0, none⟩) hl hcap) hl (byteCells (headBytes nl at_ ps)) (by rfl) HOWN1.out ⟨gr, 0, none⟩ rbl tcap (byteCells RB) (by rfl) HLR.out HD1.out (byteCells_one RB) (by omega) (by unfold maxLen; omega) (by omega) (by simp; omega) wc.heap.size (by simp) ?_; intro g1 cap1 w1 hown1 hgrow1 hat1 hlt1; have hn2 := Lib.hid (HD2.out w1 hgrow1); have ho1 := Lib.hid hown1; have hs1 := hgrow1.size; rw [World.size_drew] at hs1)
        | (refine step_append_lies _ (by rfl) (.tmp 175) (.tmp 176) _ (by rfl) (wb.heap.size + 1) 5 i5 (.int .u8 0) 1 1 Try.underlying26 j5 j5z j5a j5b rfl (by omega) (.slice (some ⟨g1, 0, none⟩) (hl + rbl) cap1) (hl + rbl) (byteCells (headBytes nl at_ ps) ++ byteCells RB) (by rfl) ho1.out ⟨gd, 0, none⟩ dl dcap (byteCells (datas ps)) (by rfl) HLD.out hn2.out (byteCells_one _) (by omega) (by unfold maxLen; omega) (by omega) (by omega) w1.heap.size (by simp) ?_; intro g2 cap2 w2 hown2 hgrow2 hat2 hlt2))
      all_goals
        have hres : Bytes R ax all l w (.returned (.slice (some ⟨g2, 0, none⟩) (hl + rbl + dl) cap2)) w2 := by
          have hlen : (storeBytes ax all ps).length = hl + rbl + dl := by
            rw [HBS.out, List.length_append, List.length_append, ← HHL.out, ← HRL.out, ← HDL.out]
          have hcells : byteCells (storeBytes ax all ps) = byteCells (headBytes nl at_ ps) ++ byteCells RB ++ byteCells (datas ps) := by
            rw [HBS.out, byteCells_append, byteCells_append]
          refine ⟨ps, g2, cap2, storeBytes ax all ps, rfl, by rw [HPL.out]; exact HNL.out, HPS.out, by rw [hlen], ?_, ?_⟩
          · rw [hlen, hcells]
            exact own_mono hown2 (by have := HST5.out.low; omega)
          · have hlow := HST5.out.low
            have kd : Kept (fun k => k = R) w wc.drew := HST5.out.kept.trans (kept_of_below ((Below.refl _ wc).drew)) (fun _ _ h => h.elim)
            have k1 : Kept (fun k => k = R) w w1 := kd.trans (kept_of_grown hgrow1) (fun q hq e => by
              have := (HOWN1.out.lt q e.symm).1
              omega)
            exact k1.trans (kept_of_grown hgrow2) (fun q hq e => by
              have := (ho1.out.lt q e.symm).1
              omega)
        have HRES := Lib.hid hres
        clear hres hown1 hgrow1 hat1 hown2 hgrow2 hat2
        go_wp2_with fail
        go_ret
        exact HRES.out
    case first =>
      go_wp2_with fail
      go_loopg [83, 15] (nl) (fun gk iv dv W => ∃ (j : Nat) (ps : List (Dl × Nat)) (hv : Value) (c : Nat), gk = nl - j ∧ j ≤ nl ∧ iv = .int .i64 j ∧ ps.length = j ∧ PsOk l ps ∧ (datas ps).length ≤ 66 * j ∧ c ≤ 6 * j ∧ St R w.heap.size wb.heap.size A n cap w RB (.slice TA RB.length tcap) (headBytes nl at_ ps) (datas ps) hv dv c W)
      case atStart => exact ⟨0, [], hv, 0, rfl, Nat.zero_le _, rfl, rfl, fun i p h => by simp at h, by simp [datas], by omega, HST.out⟩
      case round =>
        obtain ⟨j, ps, hv', c, hgk, hjn, rfl, hpl, hps, hdl, hc, hst⟩ := hrel
        have HK := Lib.hid hgk
        have HPL := Lib.hid hpl
        have HPS := Lib.hid hps
        have HST1 := Lib.hid hst
        by_cases hlt : j < nl
        · obtain ⟨d, hd⟩ : ∃ d, l[j]? = some d := ⟨_, List.getElem?_eq_getElem (by have := HNL.out; omega)⟩
          obtain ⟨d1, d2, d3, d4⟩ := HF.out.lists.2.2 d (List.mem_of_getElem? hd)
          obtain ⟨g', r, t, rfl, hg', hgR, c0w, c1w, hr, ht⟩ := dls_at HVL.out hd
          have hgne : ¬ g' = R := fun e => hgR (by omega)
          have c0 := hst.kept.cell c0w hgne
          have c1 := hst.kept.cell c1w hgne
          obtain ⟨RA, rcap, rfl, hrc1, hrc2⟩ := Row.len hr
          obtain ⟨TT, tcap2, rfl, htc1, htc2⟩ := grid_len ht
          obtain ⟨rn, hrn⟩ : ∃ rn, rn = d.regs.length := ⟨_, rfl⟩
          rw [← hrn] at c0 hrc1 d1
          rw [d3] at c1 htc1
          have HD := Lib.hid hd
          have HDR := Lib.hid hr
          have HDT := Lib.hid ht
          have HD4 := Lib.hid (And.intro d2 (And.intro d3 d4))
          have HRN := Lib.hid hrn
          obtain ⟨DA, dcap, rfl⟩ := own_slice hst.data
          obtain ⟨dl, hdl2⟩ : ∃ dl, dl = (datas ps).length := ⟨_, rfl⟩
          rw [← hdl2] at hdl
          have HDL := Lib.hid hdl2
          have hbX : Below wr.heap.size wr (wr.alloc (.cells #[.slice RA rn rcap, .slice TT m tcap2] 37)) := (Below.refl _ _).alloc (Nat.le_refl _) _
          have hstX := hst.later hbX
          have hL := Lib.hid (long_any wb.heap.size (wb.heap.size + 1) (headBytes nl at_ ps) ((at_ : Int) + dl) hv' (wr.alloc (.cells #[.slice RA rn rcap, .slice TT m tcap2] 37)) (by omega) (by omega) (by
            unfold headBytes
            rw [shorts_len, List.length_append]
            have h1 : ∀ (ps : List (Dl × Nat)) (a : Nat), (longs (offs a ps)).length = 2 * ps.length := fun ps => by
              induction ps with
              | nil => intro a; rfl
              | cons p ps ih =>
                intro a
                have := ih (a + (dataBytes p).length)
                simp only [offs, longs, List.flatMap_cons, List.length_append, List.length_cons, List.length_nil] at this ⊢
                omega
            rw [h1]
            simp
            omega) hstX.head)
          have HSTX := Lib.hid hstX
          have hsr : wb.heap.size < wr.heap.size := by have := hst.head.size; omega
          have hTT : w.heap.size < wb.heap.size := hst.low.2.2
          have hhl := hst.head.own
          have hxl : ∀ q, hv'.ownBlock = some q → q < wr.heap.size := fun q hq => (hhl.lt q hq).2
          have HXL := Lib.hid hxl
          have kj : (j : Int) < nl := by omega
          rw [← hdl2]
          clear hgk hpl hps hst hd d2 d3 d4 hr ht c0w c1w hrn hbX hstX hhl hxl hdl2
          go_wp2_with fail
          refine hL.out.mono ?_
          rintro e w2 ⟨rfl, hv2, hw2⟩
          have hst2 := HSTX.out.wrote hw2
          have x0 : w2.cell? ⟨wr.heap.size, 0, none⟩ = some (.slice RA rn rcap) := hw2.kept.cell (by rw [cell_in (heap_alloc_new wr _)]; rfl) (fun h => by
            rcases h with h | h
            · omega
            · have := HXL.out _ h.symm; omega)
          have x1 : w2.cell? ⟨wr.heap.size, 1, none⟩ = some (.slice TT m tcap2) := hw2.kept.cell (by rw [cell_in (heap_alloc_new wr _)]; rfl) (fun h => by
            rcases h with h | h
            · omega
            · have := HXL.out _ h.symm; omega)
          have hRX : R < wr.heap.size := by omega
          obtain ⟨X, hX⟩ : ∃ X, X = wr.heap.size := ⟨_, rfl⟩
          have HX := Lib.hid hX
          have HST2 := Lib.hid hst2
          have HX0 := Lib.hid (And.intro x0 x1)
          have hsw2 : wr.heap.size < w2.heap.size := by have := World.block_lt_of_cell? w2 _ x0; exact this
          clear hw2 hst2 c0 c1 hL hX
          go_upto_block 6 with fail
          go_cut [18] (fun kv W => ∃ (wd c' : Nat), kv = .int .i64 wd ∧ Fits d wd ∧ c' ≤ 6 * j + 6 ∧ (∃ hb, hb = headBytes nl at_ ps ++ shorts [((at_ : Int) + dl) / 65536, (at_ : Int) + dl] ∧ St R w.heap.size wb.heap.size A n cap w RB (.slice TA RB.length tcap) hb (datas ps) hv2 (.slice DA dl dcap) c' W) ∧ Kept (fun k => k = R) w2 W)
          case first =>
            go_wp2_with fail
            go_loopg [18] (rn) (fun gk kv W => ∃ (wd c' : Nat), gk = wd ∧ kv = .int .i64 wd ∧ wd ≤ rn ∧ Fits d wd ∧ c' ≤ 6 * j + (rn - wd) ∧ (∃ hb, hb = headBytes nl at_ ps ++ shorts [((at_ : Int) + dl) / 65536, (at_ : Int) + dl] ∧ St R w.heap.size wb.heap.size A n cap w RB (.slice TA RB.length tcap) hb (datas ps) hv2 (.slice DA dl dcap) c' W) ∧ Kept (fun k => k = R) w2 W)
            case atStart => exact ⟨rn, c, rfl, rfl, Nat.le_refl _, ⟨by rw [HRN.out]; exact Nat.le_refl _, fun row hrow k x hk hx => by
              have h1 := (HD4.out.2.2 row hrow).1
              have h2 := (List.getElem?_eq_some_iff.1 hx).1
              have h3 := HRN.out
              omega⟩, by omega, ⟨_, rfl, by have h := HST2.out; rw [← HDL.out] at h; exact h⟩, Kept.refl _ _⟩
            case round =>
              obtain ⟨wd, c', hgk, rfl, hwr, hfit, hc', ⟨hb, hhb, hst⟩, hkept⟩ := hrel
              have HK2 := Lib.hid hgk
              have HFIT := Lib.hid hfit
              have HHB := Lib.hid hhb
              have HST3 := Lib.hid hst
              have HKEPT := Lib.hid hkept
              cases wd with
              | zero =>
                clear hgk hfit hhb hst hkept
                go_wp2_with fail
                go_meet
                case rel => exact ⟨0, c', rfl, HFIT.out, by omega, ⟨hb, HHB.out, HST3.out⟩, HKEPT.out⟩
              | succ u =>
                have hW := Lib.hid (way_any R A n cap c' wr hn (by omega) hst.wr (HIN.out wr hst.kept))
                have k0 : (0 : Int) < (u : Int) + 1 := by omega
                have k1 : (((u + 1 : Nat) : Int)) = (u : Int) + 1 := by omega
                rw [k1]
                clear k1 hgk hfit hhb hst hkept
                go_wp2_with fail
                refine hW.out.mono ?_
                rintro e w3 ⟨⟨rr, rfl⟩, hch⟩
                have HCH := Lib.hid hch
                by_cases hr1 : rr = 1
                · subst hr1
                  have hkw : Kept (fun k => k = R) w w3 := HST3.out.kept.trans hch.kept (fun q _ h => h)
                  have hkx : Kept (fun k => k = R) w2 w3 := HKEPT.out.trans hch.kept (fun q _ h => h)
                  have y1 := hkx.cell HX0.out.2 (fun e => by have := HX.out; omega)
                  have hgr : GridR (fun q => R ≤ q) w3 (.slice TT m tcap2) d.items := by
                    have h := good_grid.kept HDT.out hkw (fun q _ e => by omega)
                    rw [HD4.out.2.1] at h
                    exact h
                  have hN := Lib.hid (narrow_any _ (.slice TT m tcap2) d.items u rn w3 hgr (fun r' h' => by rw [(HD4.out.2.2 r' h').1]; exact HRN.out.symm) (by omega) (by rw [HD4.out.2.1]; have := HF.out.num; omega))
                  unfold Narrows at hN
                  clear hch hkw hkx hgr
                  go_wp2_with fail
                  refine hN.out.mono ?_
                  rintro e w4 ⟨⟨b, rfl, hb⟩, hw4⟩
                  subst hw4
                  have HBB := Lib.hid hb
                  clear hb y1
                  cases b with
                  | false =>
                    go_wp2_with fail
                    go_meet
                    case rel =>
                      obtain ⟨c2, hc2, hst3⟩ := HST3.out.chose HCH.out
                      exact ⟨u + 1, c2, by go_num, HFIT.out, by omega, ⟨hb, HHB.out, hst3⟩, HKEPT.out.trans HCH.out.kept (fun q _ h => h)⟩
                  | true =>
                    go_wp2_with fail
                    go_roundg (u)
                    case measure => have := HK2.out; omega
                    case rel =>
                      obtain ⟨c2, hc2, hst3⟩ := HST3.out.chose HCH.out
                      refine ⟨u, c2, rfl, by go_num, by omega, ⟨by have := HFIT.out.1; omega, fun row hrow k x hk hx => ?_⟩, by omega, ⟨hb, HHB.out, hst3⟩, HKEPT.out.trans HCH.out.kept (fun q _ h => h)⟩
                      by_cases hku : k = u
                      · subst hku
                        exact HBB.out (by first | rfl | trivial) row hrow x hx
                      · exact HFIT.out.2 row hrow k x (by omega) hx
                · have e1 : (rr == 1) = false := by rw [beq_eq_false_iff_ne]; exact hr1
                  clear hch hr1
                  go_wp2_with fail
                  go_meet
                  case rel =>
                    obtain ⟨c2, hc2, hst3⟩ := HST3.out.chose HCH.out
                    exact ⟨u + 1, c2, by go_num, HFIT.out, by omega, ⟨hb, HHB.out, hst3⟩, HKEPT.out.trans HCH.out.kept (fun q _ h => h)⟩
          case rest =>
            obtain ⟨wd, c', rfl, hfit, hc', ⟨hb, hhb, hst⟩, hkept⟩ := hcut
            obtain ⟨ws, rfl⟩ : ∃ ws : World, ws = wc := ⟨_, rfl⟩
            have y0 := hkept.cell HX0.out.1 (fun e => by omega)
            have y1 := hkept.cell HX0.out.2 (fun e => by omega)
            have hwd : wd ≤ rn := by have := hfit.1; have := HRN.out; omega
            have HST3 := Lib.hid hst
            have HFIT := Lib.hid hfit
            have HHB := Lib.hid hhb
            have HKW := Lib.hid hst.kept
            have hsX : wr.heap.size < ws.heap.size := by have := hkept.size; omega
            have hm5 : m ≤ 5 := by have := HF.out.num; omega
            have hC1 : ∀ (T3 B : Nat) (W : World), ws.heap.size ≤ T3 → Below ws.heap.size ws W → Tab T3 (ws.heap.size + 2) [] W (.slice none 0 0) → Row (fun q => q = T3 ∨ some q = (Value.slice none 0 0).ownBlock) W (.slice (some ⟨B, 0, none⟩) 3 3) 3 ([(m : Int), (wd : Int), (rn : Int)].map fun x => .int .i64 x) →
                Calls Try.prog 24 #[.pointer (some ⟨T3, 0, none⟩), .slice (some ⟨B, 0, none⟩) 3 3] W fun e w' => e = .returned (.pointer (some ⟨T3, 0, none⟩)) ∧ ∃ v', Tab T3 (ws.heap.size + 2) (shorts [(m : Int), (wd : Int), (rn : Int)]) w' v' ∧ Below ws.heap.size ws w' := by
              intro T3 B W hT hbW ht hr
              refine (short_any T3 (ws.heap.size + 2) 3 [] [(m : Int), (wd : Int), (rn : Int)] (.slice none 0 0) (.slice (some ⟨B, 0, none⟩) 3 3) W rfl (by omega) (by intro y hy; simp at hy; omega) (by simp) ht hr).mono ?_
              rintro e w' ⟨he, v', hw'⟩
              exact ⟨he, v', by simpa using hw'.tab, hw'.kept.below hbW hbW.size (fun q hq h => by
                rcases h with h | h
                · omega
                · simp [Value.ownBlock] at h)⟩
            have hregs : IntsR (fun q => R ≤ q) w (.slice RA rn rcap) d.regs := by
              have h := HDR.out
              rw [← HRN.out] at h
              exact h
            have hregs2 := good_ints.kept hregs hst.kept (fun q _ e => by omega)
            have hC2 : ∀ (T3 : Nat) (v : Value) (W : World), ws.heap.size ≤ T3 → Below ws.heap.size ws W → Tab T3 (ws.heap.size + 2) (shorts [(m : Int), (wd : Int), (rn : Int)]) W v →
                Calls Try.prog 24 #[.pointer (some ⟨T3, 0, none⟩), .slice RA rn rcap] W fun e w' => e = .returned (.pointer (some ⟨T3, 0, none⟩)) ∧ ∃ v', Tab T3 (ws.heap.size + 2) (dataHead d wd) w' v' ∧ Below ws.heap.size ws w' := by
              intro T3 v W hT hbW ht
              have hr : Row (fun q => q = T3 ∨ some q = v.ownBlock) W (.slice RA rn rcap) rn (d.regs.map fun x => .int .i64 x) := by
                have h1 : Row (fun q => q = T3 ∨ some q = v.ownBlock) ws (.slice RA rn rcap) d.regs.length (d.regs.map fun x => .int .i64 x) := Row.sub hregs2 (fun q hq h => by
                  rcases h with h | h
                  · omega
                  · have := (ht.own.lt q h.symm).1; omega)
                rw [← HRN.out] at h1
                exact h1.below hbW
              refine (short_any T3 (ws.heap.size + 2) rn (shorts [(m : Int), (wd : Int), (rn : Int)]) d.regs v (.slice RA rn rcap) W HRN.out.symm (by omega) (fun x hx => by have := HD4.out.1 x hx; have := HNA.out; omega) (by simp [shorts_len]) ht hr).mono ?_
              rintro e w' ⟨he, v', hw'⟩
              refine ⟨he, v', ?_, hw'.kept.below hbW hbW.size (fun q hq h => by
                rcases h with h | h
                · omega
                · have := (ht.own.lt q h.symm).1; omega)⟩
              unfold dataHead
              rw [shorts_append, HD4.out.2.1, ← HRN.out]
              exact hw'.tab
            have HC1 := Lib.hid hC1
            have HC2 := Lib.hid hC2
            have bA : Below ws.heap.size ws ((ws.alloc (.cells #[.slice none 0 0, .slice none 0 0] 95)).alloc (.cells #[.int .i64 m, .int .i64 wd, .int .i64 rn] 3)).drew := (((Below.refl _ _).alloc (Nat.le_refl _) _).alloc (by simp) _).drew
            have bB : Below ws.heap.size ws ((ws.alloc (.cells #[.int .i64 m, .int .i64 wd, .int .i64 rn] 3)).alloc (.cells #[.slice none 0 0, .slice none 0 0] 95)).drew := (((Below.refl _ _).alloc (Nat.le_refl _) _).alloc (by simp) _).drew
            have tA : Tab ws.heap.size (ws.heap.size + 2) [] ((ws.alloc (.cells #[.slice none 0 0, .slice none 0 0] 95)).alloc (.cells #[.int .i64 m, .int .i64 wd, .int .i64 rn] 3)).drew (.slice none 0 0) := by
              have h := (tab_start ws).later (w' := ((ws.alloc (.cells #[.slice none 0 0, .slice none 0 0] 95)).alloc (.cells #[.int .i64 m, .int .i64 wd, .int .i64 rn] 3)).drew) (((Below.refl _ _).alloc (Nat.le_refl _) _).drew)
              exact ⟨h.cell, h.free, World.ownsRow_nil _ _ _ _, by omega, by simp⟩
            have tB : Tab (ws.heap.size + 1) (ws.heap.size + 2) [] ((ws.alloc (.cells #[.int .i64 m, .int .i64 wd, .int .i64 rn] 3)).alloc (.cells #[.slice none 0 0, .slice none 0 0] 95)).drew (.slice none 0 0) := by
              have h := tab_start (ws.alloc (.cells #[.int .i64 m, .int .i64 wd, .int .i64 rn] 3))
              rw [World.size_alloc] at h
              exact ⟨h.cell, h.free, World.ownsRow_nil _ _ _ _, by omega, by simp⟩
            have rA : Row (fun q => q = ws.heap.size ∨ some q = (Value.slice none 0 0).ownBlock) ((ws.alloc (.cells #[.slice none 0 0, .slice none 0 0] 95)).alloc (.cells #[.int .i64 m, .int .i64 wd, .int .i64 rn] 3)).drew (.slice (some ⟨ws.heap.size + 1, 0, none⟩) 3 3) 3 ([(m : Int), (wd : Int), (rn : Int)].map fun x => .int .i64 x) := by
              have h := row_new (fun q => q = ws.heap.size ∨ some q = (Value.slice none 0 0).ownBlock) (ws.alloc (.cells #[.slice none 0 0, .slice none 0 0] 95)) [.int .i64 m, .int .i64 wd, .int .i64 rn] 3 3 (fun h => by
                rcases h with h | h
                · rw [World.size_alloc] at h; omega
                · simp [Value.ownBlock] at h) rfl (by omega)
              rw [World.size_alloc] at h
              exact h.below ((Below.refl _ _).drew)
            have rB : Row (fun q => q = ws.heap.size + 1 ∨ some q = (Value.slice none 0 0).ownBlock) ((ws.alloc (.cells #[.int .i64 m, .int .i64 wd, .int .i64 rn] 3)).alloc (.cells #[.slice none 0 0, .slice none 0 0] 95)).drew (.slice (some ⟨ws.heap.size, 0, none⟩) 3 3) 3 ([(m : Int), (wd : Int), (rn : Int)].map fun x => .int .i64 x) := by
              have h := row_new (fun q => q = ws.heap.size + 1 ∨ some q = (Value.slice none 0 0).ownBlock) ws [.int .i64 m, .int .i64 wd, .int .i64 rn] 3 3 (fun h => by
                rcases h with h | h
                · omega
                · simp [Value.ownBlock] at h) rfl (by omega)
              exact h.below (((Below.refl _ _).alloc (Nat.le_refl _) _).drew)
            clear hfit hhb hst hkept hC1 hC2 hregs hregs2
            go_upto_region 22 with fail
            go_cut [19] (fun pv W => ∃ (T3 : Nat) (tv : Value), pv = .pointer (some ⟨T3, 0, none⟩) ∧ ws.heap.size ≤ T3 ∧ Tab T3 (ws.heap.size + 2) (dataHead d wd) W tv ∧ Below ws.heap.size ws W)
            case first =>
              go_region_held3 (fun W => W.cell? ⟨wr.heap.size, 0, none⟩ = some (.slice RA rn rcap) ∧ W.cell? ⟨wr.heap.size, 1, none⟩ = some (.slice TT m tcap2))
                (first
                  | go_keep
                  | (go_split_ands; exact ⟨below_cell hb3 y0, below_cell hb3 y1⟩)
                  | (go_split_ands; exact ⟨below_cell hb5 y0, below_cell hb5 y1⟩))
                (first
                  | (go_at_call 24; (with_reducible refine (HC1.out ws.heap.size (ws.heap.size + 1) _ (Nat.le_refl _) bA tA rA).mono ?_); rintro e w3 ⟨rfl, v3, ht3, hb3⟩)
                  | (go_at_call 24; (with_reducible refine (HC1.out (ws.heap.size + 1) ws.heap.size _ (by omega) bB tB rB).mono ?_); rintro e w3 ⟨rfl, v3, ht3, hb3⟩)
                  | (go_at_call 24; (with_reducible refine (HC2.out ws.heap.size _ _ (Nat.le_refl _) hb3 ht3).mono ?_); rintro e w5 ⟨rfl, v5, ht5, hb5⟩)
                  | (go_at_call 24; (with_reducible refine (HC2.out (ws.heap.size + 1) _ _ (by omega) hb3 ht3).mono ?_); rintro e w5 ⟨rfl, v5, ht5, hb5⟩))
              all_goals
                go_wp2_with fail
                go_meet
                case rel => exact ⟨_, v5, rfl, by omega, ht5, hb5⟩
            case rest =>
              obtain ⟨T3, tv3, rfl, hT3, htab, hbel⟩ := hcut
              obtain ⟨wt, rfl⟩ : ∃ wt : World, wt = wc := ⟨_, rfl⟩
              have z1 := below_cell hbel y1
              have HTAB := Lib.hid htab
              have HBEL := Lib.hid hbel
              have hgrid : GridR (fun q => R ≤ q) ws (.slice TT m tcap2) d.items := by
                have h := good_grid.kept HDT.out HKW.out (fun q _ e => by omega)
                rw [HD4.out.2.1] at h
                exact h
              have HGRID := Lib.hid hgrid
              clear htab hbel hgrid y0 y1 bA bB tA tB rA rB HC1 HC2
              go_wp2_with fail
              go_loopg [129] (m) (fun gk iv W => ∃ (i : Nat) (tv : Value), gk = m - i ∧ i ≤ m ∧ iv = .int .i64 i ∧ Tab T3 (ws.heap.size + 2) (dataHead d wd ++ (d.items.take i).flatMap (rowBytes wd)) W tv ∧ Below ws.heap.size ws W)
              case atStart => exact ⟨0, tv3, rfl, Nat.zero_le _, rfl, by simpa using HTAB.out, HBEL.out⟩
              case round =>
                obtain ⟨i, tv, hgk, him, rfl, htab, hbel⟩ := hrel
                have HK2 := Lib.hid hgk
                have HT := Lib.hid htab
                have HB := Lib.hid hbel
                by_cases hlt : i < m
                · obtain ⟨row, hrow⟩ : ∃ row, d.items[i]? = some row := ⟨_, List.getElem?_eq_getElem (by have := HD4.out.2.1; omega)⟩
                  obtain ⟨hrowl, hrowf⟩ := HD4.out.2.2 row (List.mem_of_getElem? hrow)
                  obtain ⟨gt, A', c'', e', hgt, _, u0w, hint⟩ := grid_at HGRID.out hrow
                  subst e'
                  have hrl : row.length = rn := by rw [hrowl]; exact HRN.out.symm
                  have hint2 : Row (fun q => R ≤ q) ws (.slice A' row.length c'') row.length (row.map fun x => .int .i64 x) := hint
                  rw [hrl] at u0w hint2
                  have u0 := below_cell hbel u0w
                  have HINT := Lib.hid hint2
                  have HROW := Lib.hid (And.intro hrow (And.intro hrl hrowf))
                  obtain ⟨pre, hpre⟩ : ∃ pre, pre = dataHead d wd ++ (d.items.take i).flatMap (rowBytes wd) := ⟨_, rfl⟩
                  rw [← hpre] at HT
                  have hprel : pre.length ≤ 200 := by
                    rw [hpre, List.length_append, dataHead_len]
                    have h1 := flat_le (rowBytes wd) 10 (d.items.take i) (fun r' h' => by
                      have h2 := rowBytes_len wd r'
                      have h3 := (HD4.out.2.2 r' (List.mem_of_mem_take h')).1
                      have h4 := HRN.out
                      omega)
                    have h5 : (d.items.take i).length ≤ 5 := by rw [List.length_take]; have := HD4.out.2.1; omega
                    have h4 := HRN.out
                    omega
                  have HPRE := Lib.hid hpre
                  have ki : (i : Int) < m := by omega
                  clear hgk htab hbel hrow hrowl hrowf u0w hint hint2 hrl hpre
                  go_wp2_with fail
                  go_loopg [135] (rn) (fun gk iv W => ∃ (k : Nat) (tv : Value), gk = rn - k ∧ k ≤ rn ∧ iv = .int .i64 k ∧ Tab T3 (ws.heap.size + 2) (pre ++ rowBytes wd (row.take k)) W tv ∧ Below ws.heap.size ws W)
                  case atStart => exact ⟨0, tv, rfl, Nat.zero_le _, rfl, by simpa [rowBytes, shorts] using HT.out, HB.out⟩
                  case round =>
                    obtain ⟨k, tv', hgk, hkr, rfl, htab, hbel⟩ := hrel
                    have HK3 := Lib.hid hgk
                    have HT2 := Lib.hid htab
                    have HB2 := Lib.hid hbel
                    by_cases hlt2 : k < rn
                    · obtain ⟨x, hx⟩ : ∃ x, row[k]? = some x := ⟨_, List.getElem?_eq_getElem (by have := HROW.out.2.1; omega)⟩
                      obtain ⟨gx, ex, hgx, _, v0w⟩ := row_at HINT.out (j := k) (x := .int .i64 x) (by simp [hx])
                      subst ex
                      have v0 := below_cell hbel v0w
                      have hxf := HROW.out.2.2 x (List.mem_of_getElem? hx)
                      have kk : (k : Int) < rn := by omega
                      have hxt := rowBytes_take (W := wd) hx
                      have hlen : (pre ++ rowBytes wd (row.take k)).length ≤ 300 := by
                        rw [List.length_append]
                        have := rowBytes_len wd (row.take k)
                        rw [List.length_take] at this
                        have := HROW.out.2.1
                        omega
                      have hlen2 : pre.length + (rowBytes wd (row.take k)).length ≤ 300 := by rw [← List.length_append]; exact hlen
                      have hsW := htab.size
                      have hlT := htab.low
                      by_cases hkw : k < wd
                      · rw [if_pos hkw] at hxt
                        have HXT := Lib.hid hxt
                        have hb3 : Below wr.heap.size wr (wr.alloc (.cells #[.int .i64 x] 3)) := (Below.refl _ _).alloc (Nat.le_refl _) _
                        have hS3 := Lib.hid (short_any T3 (ws.heap.size + 2) 1 (pre ++ rowBytes wd (row.take k)) [x] tv' (.slice (some ⟨wr.heap.size, 0, none⟩) 1 1) (wr.alloc (.cells #[.int .i64 x] 3)) rfl (by omega) (by intro y hy; simp at hy; omega) (by omega) (htab.later hb3)
                          (row_new _ wr [.int .i64 x] 3 1 (fun h => by have := htab.mine _ h; omega) rfl (by omega)))
                        have hnx : ∀ (W2 : World) (bs2 : List Nat) (tv2 : Value), Wrote T3 (ws.heap.size + 2) bs2 tv' (wr.alloc (.cells #[.int .i64 x] 3)) tv2 W2 → Below ws.heap.size ws W2 := fun W2 bs2 tv2 hw => hw.kept.below (hbel.trans (hb3.mono (by omega))) (by simp; omega) (fun q hq h => by
                          rcases h with h | h
                          · omega
                          · have := (htab.own.lt q h.symm).1; omega)
                        have HNX := Lib.hid hnx
                        have kw : (k : Int) < wd := by omega
                        clear hgk htab hbel hx v0w hxt hb3 hnx
                        go_wp2_with fail
                        refine hS3.out.mono ?_
                        rintro e w6 ⟨rfl, v6, hw6⟩
                        have HN := Lib.hid (And.intro hw6.tab (HNX.out _ _ _ hw6))
                        clear hw6 v0 hS3 HNX
                        go_wp2_with fail
                        go_roundg (rn - (k + 1))
                        case measure => have := HK3.out; omega
                        case rel => exact ⟨k + 1, v6, rfl, by omega, by go_num, by
                          rw [HXT.out, ← List.append_assoc]
                          have h := HN.out.1
                          simp only [shorts, List.flatMap_cons, List.flatMap_nil, List.append_nil] at h
                          exact h, HN.out.2⟩
                      · rw [if_neg hkw] at hxt
                        have HXT := Lib.hid hxt
                        have kw : ¬ (k : Int) < wd := by omega
                        obtain ⟨pr, hpr⟩ : ∃ pr, pr = pre ++ rowBytes wd (row.take k) := ⟨_, rfl⟩
                        rw [← hpr] at HT2 htab hlen
                        have HPR := Lib.hid hpr
                        have t0 := htab.cell
                        have tf := htab.free
                        have hown := htab.own
                        obtain ⟨i5, j5, j5z, j5a, j5b⟩ := info_parts info5
                        clear hgk htab hbel hx v0w hxt hpr hlen2
                        go_wp2_with (at_builtin; go_must (refine wpList_append_own_at _ rfl (.tmp 151) (.tmp 154) 26 rfl (ws.heap.size + 2) 5 i5 (.int .u8 0) 1 1 Try.underlying26 j5 j5z j5a j5b rfl (by decide) _ _ _ rfl (hown.alloc _) ⟨wr.heap.size, 0, none⟩ 1 1 [.int .u8 (x % 256)] rfl rfl (cells_new wr [.int .u8 (x % 256)] 5) (ints_oneCell .u8 [_]) ?_ ?_ ?_ ?_))
                        · unfold maxLen; omega
                        · omega
                        · omega
                        intro v2 w4 hown2 hg2 _ hat2
                        obtain ⟨g2, cap2, cur2, rfl, _⟩ := own_form hown2 (by omega)
                        have R' := tab_push (x := x % 256) HT2.out (by omega) hown2 hg2 hat2
                        have hbw4 : Below ws.heap.size ws (w4.setCell ⟨T3, 0, none⟩ (.slice (some ⟨g2, 0, none⟩) (pr.length + 1) cap2)) := R'.2.kept.below HB2.out (by omega) (fun q hq h => by
                          rcases h with h | h
                          · omega
                          · have := (hown.lt q h.symm).1; omega)
                        have HR := Lib.hid (And.intro R'.2.tab hbw4)
                        obtain ⟨d0, d1⟩ := R'.1
                        clear R' hown2 hg2 hat2 hown t0 tf v0 hbw4
                        go_wp2_with fail
                        go_roundg (rn - (k + 1))
                        case measure => have := HK3.out; omega
                        case rel => exact ⟨k + 1, _, rfl, by omega, by go_num, by
                          rw [HXT.out, ← List.append_assoc, ← HPR.out]
                          exact HR.out.1, HR.out.2⟩
                    · have hfin : Tab T3 (ws.heap.size + 2) (dataHead d wd ++ (d.items.take (i + 1)).flatMap (rowBytes wd)) wr tv' := by
                        obtain ⟨hl, ht⟩ := List.getElem?_eq_some_iff.1 HROW.out.1
                        rw [List.take_succ_eq_append_getElem hl, ht, List.flatMap_append, ← List.append_assoc, ← HPRE.out]
                        rw [List.take_of_length_le (l := row) (by have := HROW.out.2.1; omega)] at htab
                        simpa using htab
                      have HFIN := Lib.hid hfin
                      clear hgk htab hbel hfin u0
                      go_wp2_with fail
                      go_roundg (m - (i + 1))
                      case measure => have := HK2.out; omega
                      case rel => exact ⟨i + 1, tv', rfl, by omega, by go_num, HFIN.out, HB2.out⟩
                · have him2 : i = m := by omega
                  obtain ⟨tb, htb⟩ : ∃ tb, tb = dataBytes (d, wd) := ⟨_, rfl⟩
                  have htab2 : Tab T3 (ws.heap.size + 2) tb wr tv := by
                    rw [htb]
                    unfold dataBytes
                    rwa [List.take_of_length_le (l := d.items) (by have := HD4.out.2.1; omega)] at htab
                  obtain ⟨tl6, tl66⟩ : 6 ≤ tb.length ∧ tb.length ≤ 66 := by
                    rw [htb]
                    exact dataBytes_len (d, wd) m HD4.out.2.1 hm5 (by rw [← HRN.out]; exact d1) (fun row h => (HD4.out.2.2 row h).1)
                  obtain ⟨tbl, htbl⟩ : ∃ tbl, tbl = tb.length := ⟨_, rfl⟩
                  obtain ⟨g3, cap3, cur3, rfl, hg3, hh3, hc3, _⟩ := own_form htab2.own (by omega)
                  have t0 := htab2.cell
                  rw [← htbl] at t0 tl6 tl66 hc3
                  have hnews : ∀ (q : Nat) (u : Value), (byteCells tb)[q]? = some u → wr.cell? ((⟨g3, 0, none⟩ : Addr).add q) = some u := fun q u hu => by
                    have hq := (List.getElem?_eq_some_iff.1 hu).1
                    rw [Addr.add_lit, Nat.zero_add, htab2.own.cellAt q (by simpa [byteCells] using hq)]
                    exact hu
                  have hst4 := HST3.out.later hbel
                  have hdata := hst4.data
                  rw [← HDL.out] at hdata
                  have HST4 := Lib.hid hst4
                  have HTB := Lib.hid htb
                  have HTBL := Lib.hid htbl
                  have hdb : wb.heap.size + 1 ≤ wr.heap.size := by have := hbel.size; omega
                  have hdl2 : dl ≤ 264 := by omega
                  obtain ⟨i5, j5, j5z, j5a, j5b⟩ := info_parts info5
                  clear hgk htab hbel htab2 htb hh3 hst4 htbl him2
                  go_wp2_with (at_builtin; go_must (refine wpList_append_lies _ rfl (.tmp 160) (.tmp 164) 26 rfl (wb.heap.size + 1) 5 i5 (.int .u8 0) 1 1 Try.underlying26 j5 j5z j5a j5b rfl (by decide) (.slice DA dl dcap) dl (byteCells (datas ps)) rfl hdata ⟨g3, 0, none⟩ tbl cap3 (byteCells tb) rfl (by have h := HTBL.out; simp [byteCells, h]) hnews (byteCells_one tb) (by omega) ?_ ?_ ?_ wr.heap.size rfl ?_))
                  · unfold maxLen; omega
                  · omega
                  · omega
                  intro g5 gcap w5 hown5 hgrow hat5 _
                  have hn := HST4.out.more (nb := tb) (cp := gcap) (g := g5) hgrow rfl (by rw [← HDL.out, ← HTBL.out]; exact hown5) hat5
                  rw [← HDL.out, ← HTBL.out] at hn
                  have hhb2 : hb = headBytes nl at_ (ps ++ [(d, wd)]) := by
                    rw [HHB.out, headBytes_snoc, ← HDL.out]
                    simp
                  have hdd : datas ps ++ tb = datas (ps ++ [(d, wd)]) := by rw [datas_snoc, HTB.out]
                  have hddl : (datas (ps ++ [(d, wd)])).length ≤ 66 * (j + 1) := by
                    rw [← hdd, List.length_append, ← HDL.out, ← HTBL.out]
                    omega
                  rw [hhb2, hdd] at hn
                  have HN := Lib.hid (And.intro hn hddl)
                  clear hn hhb2 hdd hddl hown5 hgrow hat5 hdata hnews t0 z1
                  go_wp2_with fail
                  go_roundg (nl - (j + 1))
                  case measure => have := HK.out; omega
                  case rel => exact ⟨j + 1, ps ++ [(d, wd)], hv2, c', rfl, by omega, by go_num, by rw [List.length_append, HPL.out]; rfl, HPS.out.snoc HPL.out HD.out HFIT.out, HN.out.2, by omega, HN.out.1⟩
        · have hjn2 : j = nl := by omega
          clear hgk hpl hps hst
          go_wp2_with fail
          go_meet
          case rel => exact ⟨ps, hv', c, by rw [HPL.out]; exact hjn2, HPS.out, HST1.out⟩
end Go.Proofs.Ytdknpamegphjlaa.Sd
