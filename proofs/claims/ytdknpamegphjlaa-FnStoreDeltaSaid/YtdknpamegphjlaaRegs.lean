/- The regions parsed, walked. -/
import Derived.Test.YtdknpamegphjlaaReg
namespace Go.Proofs.Ytdknpamegphjlaa.Sd
open Go Go.RowKit

/-- A region as parsed. -/
def Ax16R (S : Nat → Prop) (w : World) (v : Value) (r : List Ax) : Prop := ∃ G, v = .slice (some ⟨G, 0, none⟩) r.length r.length ∧ G < w.heap.size ∧ ¬ S G ∧ Ax16 G r w
theorem good_ax16 : Good Ax16R where
  kept := fun ⟨G, h1, h2, h3, h4⟩ k hs => ⟨G, h1, Nat.lt_of_lt_of_le h2 k.size, h3, fun j t i ht hi => (World.cell?_of_block (k.block G h2 (fun h => h3 (hs G h2 h)))).trans (h4 j t i ht hi)⟩
  sub := fun ⟨G, h1, h2, h3, h4⟩ hs => ⟨G, h1, h2, fun h => h3 (hs G h2 h), h4⟩

theorem info90 : (Try.prog.info? 90).map (fun i => (i.zero, i.size, i.bytes)) = some (some (.agg #[.slice none 0 0]), 1, 24) := by kernel_rfl

structure VrSt (ax : Nat) (all : List (List Ax)) (w : World) (i : Nat) (vv : Value) (vs : List Value) (W : World) : Prop where
  item : Item 56 [.int .u16 0, .slice none 0 0] w W [.int .u16 (ax : Nat), vv]
  grows : Grows Ax16R (fun q => q ≤ w.heap.size + 1) (w.heap.size + 2) 90 W vv (all.take i) vs

theorem VrSt.later {ax i : Nat} {all : List (List Ax)} {w W W' : World} {vv : Value} {vs : List Value} (h : VrSt ax all w i vv vs W) (k : Below W.heap.size W W') : VrSt ax all w i vv vs W' := ⟨h.item.later k, h.grows.kept good_ax16 k⟩

theorem VrSt.next {ax i g cap : Nat} {all : List (List Ax)} {w W W1 : World} {vv u : Value} {vs : List Value} {r : List Ax} (h : VrSt ax all w i vv vs W) (hr : all[i]? = some r) (hu : Ax16R (fun q => q ≤ w.heap.size + 1 ∨ some q = vv.ownBlock) W u r)
    (hg : (W.alloc (.cells #[u] 90)).grownBy W1 vv.ownBlock) (ho : W1.ownsRow (w.heap.size + 2) 90 1 (.slice (some ⟨g, 0, none⟩) (i + 1) cap) (i + 1) (vs ++ [u])) (hat : vv.ownBlock = some g ∨ g = W.heap.size + 1) (hi : i ≤ all.length) :
    W1.cell? ⟨w.heap.size + 1, 1, none⟩ = some vv ∧ W1.frozen? ⟨w.heap.size + 1, 1, none⟩ = false ∧ VrSt ax all w (i + 1) (.slice (some ⟨g, 0, none⟩) (i + 1) cap) (vs ++ [u]) (W1.setCell ⟨w.heap.size + 1, 1, none⟩ (.slice (some ⟨g, 0, none⟩) (i + 1) cap)) := by
  have hbA : Below W.heap.size W (W.alloc (.cells #[u] 90)) := (Below.refl _ _).alloc (Nat.le_refl _) _
  have hA := h.later hbA
  have hsz := h.item.size
  have hown : ∀ q, vv.ownBlock = some q → w.heap.size + 2 ≤ q := fun q hq => (h.grows.own.lt q hq).1
  have n1 : ¬ some (w.heap.size + 1) = vv.ownBlock := fun e => by have := hown _ e.symm; omega
  have n0 : ¬ some w.heap.size = vv.ownBlock := fun e => by have := hown _ e.symm; omega
  have k := kept_of_grown hg
  have hs1 := hg.size
  have hit : Item 56 [.int .u16 0, .slice none 0 0] w W1 [.int .u16 (ax : Nat), vv] := by
    have a := hA.item
    have b := a.size
    exact ⟨(k.block _ (by omega) n0).trans a.row0, (k.block _ (by omega) n1).trans a.row, by omega, k.below a.below (by omega) (fun q hq e => by have := hown q e.symm; omega)⟩
  obtain ⟨c0, c1, _⟩ := hit.cell (i := 1) (v := vv) rfl
  have hl : (all.take i).length = i := by rw [List.length_take]; omega
  have hgr : Grows Ax16R (fun q => q ≤ w.heap.size + 1) (w.heap.size + 2) 90 W1 (.slice (some ⟨g, 0, none⟩) (i + 1) cap) (all.take i ++ [r]) (vs ++ [u]) := by
    refine hA.grows.snoc good_ax16 hg (by rw [hl]; exact ho) ?_ (good_ax16.kept hu (kept_of_below hbA) (fun _ _ h => h.elim))
    rcases hat with e | e
    · left; rw [e]; rfl
    · right; exact ⟨g, rfl, by rw [World.size_alloc]; omega⟩
  refine ⟨c0, c1, ⟨hit.set 1 _, ?_⟩⟩
  obtain ⟨h1, h2⟩ := List.getElem?_eq_some_iff.1 hr
  rw [List.take_succ_eq_append_getElem h1, h2]
  exact hgr.set good_ax16 (Nat.le_refl _) (by omega) _

def RegsP (ax : Nat) (all : List (List Ax)) (w : World) (e : Ending) (w' : World) : Prop :=
  ∃ (vv : Value) (q : Int), e = .returned (.tuple #[.agg #[.int .u16 (ax : Nat), vv], .int .i64 q, .nilIface]) ∧ Rows' Ax16R (fun q => q < w.heap.size) w' vv all ∧ Below w.heap.size w w'

theorem regNums_at (all : List (List Ax)) (ax : Nat) (h : ∀ r ∈ all, r.length = ax) {i : Nat} {r : List Ax} (hr : all[i]? = some r) : ∃ A B, regNums all = A ++ (axNums r ++ B) ∧ A.length = i * (3 * ax) := by
  obtain ⟨h1, h2⟩ := List.getElem?_eq_some_iff.1 hr
  refine ⟨regNums (all.take i), regNums (all.drop (i + 1)), ?_, ?_⟩
  · conv => lhs; rw [← List.take_append_drop i all, List.drop_eq_getElem_cons h1, h2]
    simp [regNums]
  · rw [regNums_len _ ax (fun r' h' => h r' (List.mem_of_mem_take h')), List.length_take]
    congr 1
    omega
theorem half_val (x : Nat) (h : x < 65536) : ((x : Int) / 256 % 256).toNat * 256 + ((x : Int) % 256).toNat = x := by omega

set_option maxRecDepth 1000000 in
set_option maxHeartbeats 4000000 in
theorem regs_any (g off N cap ax na : Nat) (all : List (List Ax)) (w : World) (hna : all.length = na) (hN : 4 + 6 * ax * na ≤ N) (h0 : 0 < ax) (h3 : ax ≤ 3) (hn0 : 0 < na) (hn6 : na ≤ 6) (hcap : N ≤ cap) (hcm : cap ≤ 9223372036854775807) (hg : g < w.heap.size) (hok : ∀ r ∈ all, r.length = ax ∧ ∀ x ∈ r, Ax.Ok x) (hr : Reads w g off (regBytes ax all)) :
    Calls Try.prog 21 #[.slice (some ⟨g, off, none⟩) N cap] w (RegsP ax all w) := by
  have HNA := Lib.hid hna
  have HOK := Lib.hid hok
  have HR := Lib.hid hr
  have hN4 : 4 ≤ N := by omega
  have hl1 : decide ((N : Int) < 4) = false := decide_eq_false (by omega)
  have h7 : (3 : Int) < N := by omega
  have hr2 : Reads w g off (shorts [(ax : Int), (na : Int)]) := by
    unfold regBytes at hr
    rw [hna, shorts_append] at hr
    exact hr.left
  have c3 : w.cell? ⟨g, off + 3, none⟩ = some (.int .u8 (((na : Int) % 256).toNat : Nat)) := (hr2.two (j := 1) rfl).2
  have HR2 := Lib.hid hr2
  have HS := Lib.hid (Item.start 56 [.int .u16 0, .slice none 0 0] w)
  have q0 : (0 : Int) ≤ N := by omega
  have q2 : (2 : Int) ≤ N := by omega
  have z2 : ¬ cap = 2 := by omega
  clear hna hok hr hr2
  go_enter Try.func21, Try.ntmps21
  go_upto_region 7 with fail
  go_cut [] (fun W => Item 56 [.int .u16 0, .slice none 0 0] w W [.int .u16 (ax : Nat), .slice none 0 0])
  case first =>
    obtain ⟨W0, hW0⟩ : ∃ W0, W0 = (w.alloc (.cells [.int .u16 0, .slice none 0 0].toArray 56)).alloc (.cells [.int .u16 0, .slice none 0 0].toArray 56) := ⟨_, rfl⟩
    have HS1 := HS
    rw [← hW0] at HS1
    obtain ⟨u0, uf, us⟩ := HS1.out.cell (i := 0) (v := .int .u16 0) rfl
    have k := HR2.out.two (j := 0) (x := (ax : Int)) rfl
    have k0 : W0.cell? ⟨g, off, none⟩ = some (.int .u8 (((ax : Int) / 256 % 256).toNat : Nat)) := by rw [← k.1]; exact HS1.out.below.cell hg
    have k1 : W0.cell? ⟨g, off + 1, none⟩ = some (.int .u8 (((ax : Int) % 256).toNat : Nat)) := by rw [← k.2]; exact HS1.out.below.cell hg
    have hC := Lib.hid (half_any g off N cap _ _ W0.drew (by omega) (by omega) (by omega) k0 k1)
    rw [half_val ax (by omega)] at hC
    change Code.wp _ _ _ _ ((w.alloc (.cells [.int .u16 0, .slice none 0 0].toArray 56)).alloc (.cells [.int .u16 0, .slice none 0 0].toArray 56))
    rw [← hW0]
    clear c3 hW0 k k0 k1
    go_region_with (go_at_call 19; refine hC.out.mono ?_; rintro e w1 ⟨rfl, hb1⟩; have z0 := (hb1.cell (p := ⟨w.heap.size + 1, 0, none⟩) us).trans u0; have z1 := (hb1.frozen (p := ⟨w.heap.size + 1, 0, none⟩) us).trans uf)
    all_goals
      go_wp2_with fail
      go_meet
    all_goals exact (HS1.out.later ((Below.refl _ _).drew.trans hb1)).set 0 _
  case rest =>
  have HI1 := Lib.hid hcut
  obtain ⟨W1, rfl⟩ : ∃ W : World, W = wc := ⟨_, rfl⟩
  clear hcut
  go_upto_region 8 with fail
  go_cut [8] (fun nv W => nv = .int .i64 na ∧ Item 56 [.int .u16 0, .slice none 0 0] w W [.int .u16 (ax : Nat), .slice none 0 0])
  case first =>
    have k := HR2.out.two (j := 1) (x := (na : Int)) rfl
    have k0 : W1.cell? ⟨g, off + 2, none⟩ = some (.int .u8 (((na : Int) / 256 % 256).toNat : Nat)) := by rw [← k.1]; exact HI1.out.below.cell hg
    have k1 : W1.cell? ⟨g, off + 2 + 1, none⟩ = some (.int .u8 (((na : Int) % 256).toNat : Nat)) := by rw [← k.2]; exact HI1.out.below.cell hg
    have hC := Lib.hid (half_any g (off + 2) (N - 2) (cap - 2) _ _ W1.drew (by omega) (by omega) (by omega) k0 k1)
    rw [half_val na (by omega)] at hC
    clear c3 k k0 k1
    go_region_with (go_at_call 19; refine hC.out.mono ?_; rintro e w1 ⟨rfl, hb1⟩)
    all_goals
      go_wp2_with fail
      go_meet
    all_goals exact ⟨by have h : IntKind.i64.wrap (na : Int) = na := IntWalk.i64_in _ (by omega)
                        simp [h], HI1.out.later ((Below.refl _ _).drew.trans hb1)⟩
  case rest =>
  obtain ⟨rfl, hi2⟩ := hcut
  obtain ⟨W2, rfl⟩ : ∃ W : World, W = wc := ⟨_, rfl⟩
  have HI2 := Lib.hid hi2
  clear hi2 c3
  obtain ⟨d6, hd6⟩ : ∃ d6, d6 = 6 * ax := ⟨_, rfl⟩
  have HD6 := Lib.hid hd6
  have hd18 : d6 ≤ 18 := by omega
  have hd60 : 6 ≤ d6 := by omega
  have k6 : 6 * (ax : Int) = d6 := by omega
  have HK6 := Lib.hid k6
  have kaw : IntKind.i64.wrap (ax : Int) = ax := IntWalk.i64_in _ (by omega)
  clear k6 hd6
  go_wp2_with fail
  go_loopg [10, 9] (na) (fun gk iv ov W => ∃ (i : Nat) (vv : Value) (vs : List Value), gk = na - i ∧ i ≤ na ∧ iv = .int .i64 i ∧ ov = .int .i64 ((4 + d6 * i : Nat) : Int) ∧ VrSt ax all w i vv vs W)
  case atStart => exact ⟨0, _, [], rfl, Nat.zero_le _, rfl, by simp, ⟨HI2.out, ⟨World.ownsRow_nil _ _ _ _, fun i u x h => by simp at h⟩⟩⟩
  case round =>
    obtain ⟨i, vv, vs, hgk, hin, rfl, rfl, hst⟩ := hrel
    have HK := Lib.hid hgk
    have HST := Lib.hid hst
    obtain ⟨wo, rfl⟩ : ∃ wo : World, wo = wr := ⟨_, rfl⟩
    by_cases hlt : i < na
    · obtain ⟨r, hri⟩ : ∃ r, all[i]? = some r := ⟨_, List.getElem?_eq_getElem (by have := HNA.out; omega)⟩
      obtain ⟨hrl, hrok⟩ := HOK.out r (List.mem_of_getElem? hri)
      obtain ⟨p, hp⟩ : ∃ p, p = 4 + d6 * i := ⟨_, rfl⟩
      obtain ⟨e0, _, _⟩ := hst.item.cell (i := 0) (v := .int .u16 (ax : Nat)) rfl
      have hpb : p + d6 ≤ N := by
        have h1 : d6 * (i + 1) ≤ d6 * na := Nat.mul_le_mul_left _ (by omega)
        rw [Nat.mul_succ] at h1
        have h2 : 6 * ax * na = d6 * na := by rw [HD6.out]
        omega
      have hrd : Reads w g (off + p) (shorts (axNums r)) := by
        obtain ⟨A, B, hAB, hAl⟩ := regNums_at all ax (fun r' h' => (HOK.out r' h').1) hri
        have h1 := HR.out
        unfold regBytes at h1
        rw [shorts_append, hAB, shorts_append, shorts_append] at h1
        have h2 := (h1.right.right).left
        rw [shorts_len, shorts_len, hAl] at h2
        have h3 : off + 2 * [(ax : Int), (all.length : Int)].length + 2 * (i * (3 * ax)) = off + p := by
          rw [hp, HD6.out]
          have : 6 * ax * i = 2 * (i * (3 * ax)) := by
            rw [Nat.mul_comm i, ← Nat.mul_assoc, ← Nat.mul_assoc]
          simp
          omega
        rw [h3] at h2
        exact h2
      have hC : ∀ W, Below w.heap.size w W → Calls Try.prog 28 #[.slice (some ⟨g, off + p, none⟩) (N - p) (cap - p), .int .i64 ax] W (RegP ax r W) := fun W hbW =>
        reg_any g (off + p) (N - p) (cap - p) ax r W hrl (by have := HD6.out; omega) h0 h3 (by omega) (by omega) (by have := hbW.size; omega) hrok (fun j x hx => below_cell hbW (hrd j x hx))
      have HC := Lib.hid hC
      have HRI := Lib.hid (And.intro hri hrl)
      have HP := Lib.hid hp
      have hbw := hst.item.below
      have hsz := hst.item.size
      have HBW := Lib.hid hbw
      have bA : Below w.heap.size w wo.drew := hbw.drew
      have bB : Below w.heap.size w (wo.alloc (.cells #[.slice none 0 0] 90)).drew := (hbw.alloc (by omega) _).drew
      have cB : (wo.alloc (.cells #[.slice none 0 0] 90)).drew.cell? ⟨wo.heap.size, 0, none⟩ = some (.slice none 0 0) := by
        have h := heap_alloc_new wo (.cells #[.slice none 0 0] 90)
        exact (cell_in (w := (wo.alloc (.cells #[.slice none 0 0] 90)).drew) (j := 0) h).trans rfl
      have fB : (wo.alloc (.cells #[.slice none 0 0] 90)).drew.frozen? ⟨wo.heap.size, 0, none⟩ = false := by
        have h := heap_alloc_new wo (.cells #[.slice none 0 0] 90)
        exact frozen_in (w := (wo.alloc (.cells #[.slice none 0 0] 90)).drew) (j := 0) h
      have CB := Lib.hid (And.intro cB fB)
      have ki : (i : Int) < na := by omega
      have kp : (p : Int) ≤ N := by omega
      have kp2 : ¬ cap = p := by omega
      have kp3 : p ≤ N := by omega
      have kp0 : (0 : Int) ≤ (p : Int) := by omega
      rw [← hp]
      clear hgk hst hri hrl hrok hrd hC hp hbw cB fB
      go_upto_region 14 with fail
      go_cut [11, 12, 13] (fun pv rv ev W => ∃ X G : Nat, pv = .pointer (some ⟨X, 0, none⟩) ∧ rv = .int .i64 (6 * (ax : Int)) ∧ ev = .nilIface ∧ W.cell? ⟨X, 0, none⟩ = some (.slice (some ⟨G, 0, none⟩) ax ax) ∧ wo.heap.size ≤ G ∧ G < W.heap.size ∧ Ax16 G r W ∧ Below wo.heap.size wo W)
      case first =>
        go_region_held3 (fun W => W.cell? ⟨w.heap.size + 1, 0, none⟩ = some (.int .u16 (ax : Nat)))
          (first | go_keep | (exact below_cell hb2 e0) | (exact below_cell (hb2.alloc hb2.size _) e0) | (exact below_cell (hb2.setCell (Nat.le_refl _) _) e0))
          (first
            | (go_at_call 28; (with_reducible refine (HC.out _ bA).mono ?_); rintro e w1 ⟨G, rfl, hG1, hG2, hG3, hG4⟩; have hb2 : Below wo.heap.size wo w1 := (Below.refl _ wo).drew.trans hG4)
            | (go_at_call 28; (with_reducible refine (HC.out _ bB).mono ?_); rintro e w1 ⟨G, rfl, hG1, hG2, hG3, hG4⟩; have hb2 : Below wo.heap.size wo w1 := ((Below.refl _ wo).alloc (Nat.le_refl _) (.cells #[.slice none 0 0] 90)).drew.trans (hG4.mono (by simp)); have x0 := below_cell hG4 CB.out.1; have x1 := (hG4.frozen (p := ⟨wo.heap.size, 0, none⟩) (by simp)).trans CB.out.2))
        all_goals
          go_wp2_with fail
          go_meet
          case rel =>
            first
              | exact ⟨_, G, rfl, rfl, rfl, by rw [cell_in (heap_alloc_new w1 _)]; rfl, hG1, by rw [World.size_alloc]; omega, fun j t i ht hi => below_cell ((Below.refl _ w1).alloc (Nat.le_refl _) _) (hG3 j t i ht hi), hb2.alloc hb2.size _⟩
              | exact ⟨_, G, rfl, rfl, rfl, World.cell?_setCell_same _ _ _ x0, by simp at hG1; omega, by rw [World.size_setCell]; exact hG2, fun j t i ht hi => by
                  simp at hG1
                  rw [World.cell?_of_block (w := w1) (Below.heap_setCell _ _ _ _ (by show G ≠ wo.heap.size; omega))]
                  exact hG3 j t i ht hi, hb2.setCell (Nat.le_refl _) _⟩
      case rest =>
        obtain ⟨X, G, rfl, rfl, rfl, hX, hG1, hG2, hG3, hbo⟩ := hcut
        obtain ⟨wd, rfl⟩ : ∃ wd : World, wd = wc := ⟨_, rfl⟩
        have hst2 := HST.out.later hbo
        have HST2 := Lib.hid hst2
        have hu : Ax16R (fun q => q ≤ w.heap.size + 1 ∨ some q = vv.ownBlock) wd (.slice (some ⟨G, 0, none⟩) ax ax) r := by
          refine ⟨G, by rw [HRI.out.2], hG2, fun h => ?_, hG3⟩
          rcases h with h | h
          · omega
          · have := (HST.out.grows.own.lt G h.symm).2
            omega
        have HU := Lib.hid hu
        obtain ⟨f1, _, _⟩ := hst2.item.cell (i := 1) (v := vv) rfl
        have hown := hst2.grows.own
        have hl : (all.take i).length = i := by rw [List.length_take]; have := HNA.out; omega
        rw [hl] at hown
        have hsz2 := hst2.item.size
        have hsd := hbo.size
        obtain ⟨t90, j90, j90z, j90a, j90b⟩ := info_parts info90
        clear hst2 hu hl bA bB e0 hG1 hG2 hG3
        go_wp2_with (at_builtin; go_must (refine wpList_append_lies _ rfl (.tmp 56) (.tmp 58) 54 rfl (w.heap.size + 2) 90 t90 _ 1 24 Try.underlying54 j90 j90z j90a j90b rfl (by decide) vv i vs rfl (hown.alloc _) ⟨wd.heap.size, 0, none⟩ 1 1 [.slice (some ⟨G, 0, none⟩) ax ax] rfl rfl (cells_new wd [.slice (some ⟨G, 0, none⟩) ax ax] 90) (fun y hy => by rw [List.mem_singleton.1 hy]; rfl) (by omega) ?_ ?_ ?_ (wd.heap.size + 1) (by simp) ?_))
        · unfold maxLen; omega
        · omega
        · first | omega | (rw [World.size_alloc]; omega)
        intro g5 gcap w5 hown5 hgrow hat5 _
        have hn := HST2.out.next HRI.out.1 HU.out hgrow hown5 hat5 (by have := HNA.out; omega)
        have m0 := hn.1
        have m1 := hn.2.1
        have HN := Lib.hid hn.2.2
        have kd : (p : Int) + 6 * (ax : Int) = ((4 + d6 * (i + 1) : Nat) : Int) := by
          have h1 := HP.out
          have h2 := HD6.out
          rw [Nat.mul_succ]
          omega
        have kd2 : 4 + d6 * (i + 1) ≤ 300 := by
          have h1 : d6 * (i + 1) ≤ d6 * 6 := Nat.mul_le_mul_left _ (by omega)
          omega
        obtain ⟨p2, hp2⟩ : ∃ p2, p2 = 4 + d6 * (i + 1) := ⟨_, rfl⟩
        rw [← hp2] at kd kd2
        have HP2 := Lib.hid hp2
        have kd3 : IntKind.i64.wrap (p2 : Int) = p2 := IntWalk.i64_in _ (by omega)
        clear hn hown hown5 hgrow hat5 f1 hp2 hX
        go_wp2_with fail
        go_roundg (na - (i + 1))
        case measure => have := HK.out; omega
        case rel => exact ⟨i + 1, _, _, rfl, by omega, by go_num, by rw [← HP2.out], HN.out⟩
    · have hin2 : i = na := by omega
      obtain ⟨VA, vcap, hvv⟩ := own_slice hst.grows.own
      have hl : (all.take i).length = na := by rw [List.length_take]; have := HNA.out; omega
      rw [hl] at hvv
      subst hvv
      have e0 := (hst.item.cell (i := 0) (v := .int .u16 (ax : Nat)) rfl).1
      have e1 := (hst.item.cell (i := 1) (v := .slice VA na vcap) rfl).1
      have r0 : wo.cell? ⟨w.heap.size, 0, none⟩ = some (.int .u16 0) := by rw [cell_in hst.item.row0]; rfl
      have r1 : wo.cell? ⟨w.heap.size, 1, none⟩ = some (.slice none 0 0) := by rw [cell_in hst.item.row0]; rfl
      have t0 : wo.frozen? ⟨w.heap.size, 0, none⟩ = false := frozen_in hst.item.row0
      have t1 : wo.frozen? ⟨w.heap.size, 1, none⟩ = false := frozen_in hst.item.row0
      have hRES : ∀ (a b : Value) (q : Int), RegsP ax all w (.returned (.tuple #[.agg #[.int .u16 (ax : Nat), .slice VA na vcap], .int .i64 q, .nilIface])) ((wo.setCell ⟨w.heap.size, 0, none⟩ a).setCell ⟨w.heap.size, 1, none⟩ b) := fun a b q => by
        have hrows := hst.grows.rows good_ax16 (S := fun q => q < w.heap.size + 1) (fun q _ h => Or.inl (by omega)) (fun q hq h => by have := (hst.grows.own.lt q hq).1; omega)
        rw [List.take_of_length_le (by have := HNA.out; omega)] at hrows
        have h1 := good_ax16.rows.kept (good_ax16.rows.kept hrows (kept_set wo w.heap.size 0 a) (fun q _ e => by omega)) (kept_set _ w.heap.size 1 b) (fun q _ e => by omega)
        exact ⟨_, q, rfl, good_ax16.rows.sub h1 (fun q _ h => by omega), (hst.item.below.setCell (Nat.le_refl _) _).setCell (Nat.le_refl _) _⟩
      have HRES := Lib.hid hRES
      have hrow : ∀ a b, ((wo.setCell ⟨w.heap.size, 0, none⟩ a).setCell ⟨w.heap.size, 1, none⟩ b).heap[w.heap.size]? = some (.cells #[a, b] 56 (0, 0)) := fun a b => by
        have h1 := set_row (j := 0) (x := a) hst.item.row0
        have h2 := set_row (j := 1) (x := b) h1
        simpa using h2
      have HROW := Lib.hid hrow
      clear hgk hst hRES hrow hl hin2
      go_wp2
      (try simp only [Exit.inBlock, Exit.then])
      refine bodyPost_ret (results_3 rfl _ _ _ ⟨w.heap.size, 0, none⟩ _ rfl (run_loadVar_row _ _ _ 56 _ _ _ (HROW.out _ _) Try.underlying56 rfl (by kernel_rfl))) rfl ?_
      exact HRES.out _ _ _
end Go.Proofs.Ytdknpamegphjlaa.Sd
