/- Neighbours of one key struck out of the sorted row, walked. -/
import Derived.Test.YtkfgmjcdaggjcaaKpEq
import Derived.Laws.CopyOwn
namespace Go.Proofs.Ytkfgmjcdaggjcaa.Kp
open Go Go.RowKit

def Str (l : List Tri) : Prop := l.Pairwise fun x y => x.key < y.key

theorem Str.snoc {C : List Tri} {c x : Tri} (h : Str C) (hc : C.getLast? = some c) (hx : c.key < x.key) : Str (C ++ [x]) := by
  obtain ⟨Q, rfl⟩ := List.getLast?_eq_some_iff.1 hc
  refine List.pairwise_append.2 ⟨h, List.pairwise_singleton _ _, fun y hy z hz => ?_⟩
  simp at hz
  subst hz
  rcases List.mem_append.1 hy with hy | hy
  · have := (List.pairwise_append.1 h).2.2 y hy c (by simp)
    omega
  · simp at hy; subst hy; exact hx

/-- What comes out: a part of the row, its keys rising strictly. -/
def Compacted (base g cap : Nat) (l : List Tri) (w0 : World) (e : Ending) (w' : World) : Prop :=
  ∃ l2 : List Tri, e = .returned (.slice (some ⟨g, 0, none⟩) l2.length cap) ∧ Str l2 ∧ (∀ x ∈ l2, x ∈ l) ∧ (l ≠ [] → l2 ≠ []) ∧ Now base g l2.length cap l2 w0 w'

theorem Now.set {base g n cap : Nat} {l : List Tri} {w W : World} {i : Nat} {y : Tri} {ya yb : Nat} {yv : Int} (h : Now base g n cap l w W) (hq : ya = y.a ∧ yb = y.b ∧ yv = y.v) :
    Now base g n cap (l.set i y) w (((W.setCell ⟨g, i * 3, none⟩ (.int .i64 ya)).setCell ⟨g, i * 3 + 1, none⟩ (.int .i64 yb)).setCell ⟨g, i * 3 + 2, none⟩ (.int .i64 yv)) := by
  obtain ⟨rfl, rfl, rfl⟩ := hq
  have o1 := (h.own.stored (i * 3) (.int .i64 (y.a : Nat))).1
  have o2 := (o1.stored (i * 3 + 1) (.int .i64 (y.b : Nat))).1
  have o3 := (o2.stored (i * 3 + 2) (.int .i64 y.v)).1
  have hb : base ≤ g := (h.own.lt g rfl).1
  refine ⟨?_, ?_, ?_⟩
  · rw [triCells_set]
    exact o3
  · exact ((h.below.setCell hb _).setCell hb _).setCell hb _
  · have := h.low; simpa using this

theorem zeros3 (m : Nat) : ∀ v ∈ (Builtin.zeroCells #[.int .i64 0, .int .i64 0, .int .i64 0] m).toList, v.oneCell' = true := by
  intro v hv
  simp only [Builtin.zeroCells, Array.toList_map, List.mem_map] at hv
  obtain ⟨i, _, rfl⟩ := hv
  have h3 : i % 3 < 3 := Nat.mod_lt _ (by decide)
  show (#[Value.int .i64 0, .int .i64 0, .int .i64 0][i % 3]!).oneCell' = true
  generalize i % 3 = q at h3
  match q, h3 with
  | 0, _ | 1, _ | 2, _ => rfl

/-- The rest of the row cleared: the first ones stay. -/
theorem clear_any {base g n cap k : Nat} {C D : List Tri} {w0 w : World} (h : Now base g n cap (C ++ D) w0 w) (hC : C.length = k) (hk : k < n) :
    ∃ w', (∀ ty, (Builtin.clear_ #[23] ty #[.slice (some ⟨g, k * 3, none⟩) (n - k) (cap - k)]).run Try.prog w = .ok (.tuple #[]) w') ∧ Now base g k cap C w0 w' := by
  obtain ⟨hl, hh⟩ := h.own
  have hlow := h.low
  rcases hh with ⟨e, _⟩ | ⟨g', cap', cur, e, hg, hr, h1, h2, h3, h4⟩
  · simp at e
  · injection e with e1 _ e3
    injection e1 with e1
    injection e1 with e1 _ _
    subst e1 e3
    have hz : ∀ w, (zeroValue 27).run Try.prog w = .ok (.agg #[.int .i64 0, .int .i64 0, .int .i64 0]) w := fun w => by kernel_rfl
    have hsz : (Builtin.zeroCells #[.int .i64 0, .int .i64 0, .int .i64 0] (n - k)).toList.length = (n - k) * 3 := by simp [Builtin.zeroCells]
    have hst := run_storeCells_at Try.prog g (k * 3) 27 (Builtin.zeroCells #[.int .i64 0, .int .i64 0, .int .i64 0] (n - k)).toList 0 cur w hr (by rw [hsz]; omega) (zeros3 _)
    refine ⟨w.setRow g (splice cur.toList (k * 3) (Builtin.zeroCells #[.int .i64 0, .int .i64 0, .int .i64 0] (n - k)).toList).toArray, fun ty => ?_, ?_⟩
    · obtain ⟨m, hm⟩ : ∃ m, n - k = m + 1 := ⟨n - k - 1, by omega⟩
      simp only [Nat.add_zero] at hst
      rw [hm] at hst ⊢
      simp [Builtin.clear_, run_underlying Try.underlying23, hz, Value.cells, hst, splice]
    · have hsp := setRow_heap w g cur (splice cur.toList (k * 3) (Builtin.zeroCells #[.int .i64 0, .int .i64 0, .int .i64 0] (n - k)).toList).toArray 27 (0, 0) hr
      have htk : cur.toList.take (k * 3) = triCells C := by
        have e1 : (cur.toList.take (n * 3)).take (k * 3) = cur.toList.take (k * 3) := by rw [List.take_take, Nat.min_eq_left (by omega)]
        have e2 : (triCells (C ++ D)).take (k * 3) = triCells C := by rw [triCells_append, List.take_left' (by rw [triCells_len, hC])]
        rw [← e1, h4, e2]
      refine ⟨⟨by rw [triCells_len, hC], .inr ⟨g, cap, _, rfl, hg, hsp, by omega, h2, ?_, ?_⟩⟩, below_setRow h.below hg _, by simpa using hlow⟩
      · have := length_splice cur.toList (k * 3) (Builtin.zeroCells #[.int .i64 0, .int .i64 0, .int .i64 0] (n - k)).toList (by rw [hsz]; simp; omega)
        simp only [List.size_toArray]
        rw [this]
        simpa using h3
      · simp only [splice]
        rw [List.take_append_of_le_length (by rw [List.length_take]; simp; omega), List.take_take, Nat.min_self]
        exact htk

/-- While neighbours are struck out: the kept ones C, what is spent D, the last one looked at: p. -/
structure Cmp (base g n cap : Nat) (l C D : List Tri) (p : Nat) (w W : World) : Prop where
  now : Now base g n cap (C ++ (D ++ l.drop p)) w W
  len : C.length + D.length = p
  str : Str C
  mem : ∀ x ∈ C, x ∈ l
  last : ∃ c y, C.getLast? = some c ∧ l[p]? = some y ∧ c.key = y.key

theorem Cmp.at_ {base g n cap : Nat} {l C D : List Tri} {p q : Nat} {w W : World} {x : Tri} (h : Cmp base g n cap l C D p w W) (hq : p ≤ q) (hx : l[q]? = some x) : (C ++ (D ++ l.drop p))[q]? = some x := by
  have := h.len
  rw [List.getElem?_append_right (by omega), List.getElem?_append_right (by omega), List.getElem?_drop, show p + (q - C.length - D.length) = q by omega]
  exact hx
theorem Cmp.skip {base g n cap : Nat} {l C D : List Tri} {p : Nat} {w W W' : World} {x y : Tri} (h : Cmp base g n cap l C D p w W) (hW : Now base g n cap (C ++ (D ++ l.drop p)) w W') (hy : l[p]? = some y) (hx : l[p + 1]? = some x) (he : x.key = y.key) : Cmp base g n cap l C (D ++ [y]) (p + 1) w W' := by
  obtain ⟨hp, hyp⟩ := List.getElem?_eq_some_iff.1 hy
  obtain ⟨c, y', h1, h2, h3⟩ := h.last
  rw [hy] at h2
  obtain rfl := Option.some.inj h2
  refine ⟨?_, by have := h.len; simp; omega, h.str, h.mem, ⟨c, x, h1, hx, by omega⟩⟩
  rw [List.drop_eq_getElem_cons hp, hyp] at hW
  simpa using hW
theorem Cmp.keep {base g n cap : Nat} {l C D : List Tri} {p : Nat} {w W W' : World} {x y : Tri} (h : Cmp base g n cap l C D p w W) (hl : Asc Tri.key l) (hW : Now base g n cap ((C ++ (D ++ l.drop p)).set C.length x) w W') (hy : l[p]? = some y) (hx : l[p + 1]? = some x) (he : x.key ≠ y.key) : ∃ D', Cmp base g n cap l (C ++ [x]) D' (p + 1) w W' := by
  obtain ⟨hp, hyp⟩ := List.getElem?_eq_some_iff.1 hy
  obtain ⟨c, y', h1, h2, h3⟩ := h.last
  rw [hy] at h2
  obtain rfl := Option.some.inj h2
  have hle := asc_at Tri.key hl hy hx (by omega)
  obtain ⟨d0, D1, hD⟩ : ∃ d0 D1, D ++ [y] = d0 :: D1 := by
    cases D with
    | nil => exact ⟨y, [], rfl⟩
    | cons d D => exact ⟨d, D ++ [y], rfl⟩
  refine ⟨D1, ?_, ?_, h.str.snoc h1 (by omega), ?_, ⟨x, x, by simp, hx, rfl⟩⟩
  · rw [List.drop_eq_getElem_cons hp, hyp] at hW
    have e : C ++ (D ++ y :: l.drop (p + 1)) = C ++ d0 :: (D1 ++ l.drop (p + 1)) := by
      have : D ++ y :: l.drop (p + 1) = (D ++ [y]) ++ l.drop (p + 1) := by simp
      rw [this, hD]
      rfl
    rw [e, List.set_append_right _ _ (Nat.le_refl _), Nat.sub_self, List.set_cons_zero] at hW
    simpa using hW
  · have h5 := congrArg List.length hD
    have := h.len
    simp at h5
    simp
    omega
  · intro z hz
    rcases List.mem_append.1 hz with hz | hz
    · exact h.mem z hz
    · simp at hz; subst hz; exact List.mem_of_getElem? hx

set_option maxRecDepth 1000000 in
set_option maxHeartbeats 8000000 in
theorem compact_any (base g n cap : Nat) (l : List Tri) (w0 w : World) (hn60 : n ≤ 60) (hn1 : 0 < n) (hok : ∀ x ∈ l, Tri.Ok x) (hasc : Asc Tri.key l) (h : Now base g n cap l w0 w) :
    Calls Try.prog 6 #[.slice (some ⟨g, 0, none⟩) n cap, .func (.func 7) #[] #[]] w (Compacted base g cap l w0) := by
  have hlen := h.len
  have hcap : n ≤ cap ∧ cap ≤ 9223372036854775807 := by
    rcases h.own.2 with ⟨e, _⟩ | ⟨g', cap', cur, e, _, _, h1, h2, _⟩
    · simp at e
    · injection e with _ _ e3
      subst e3
      exact ⟨h1, by unfold maxLen at h2; omega⟩
  obtain ⟨hnc, hcm⟩ := hcap
  have HL := Lib.hid hlen
  have HOK := Lib.hid hok
  have HASC := Lib.hid hasc
  have HN0 := Lib.hid h
  have HNE := Lib.hid (show l ≠ [] by intro e; subst e; simp at hlen; omega)
  by_cases hn2 : n < 2
  · have hs : Str l := by
      match l, hlen with
      | [], _ => exact List.Pairwise.nil
      | [x], _ => exact List.pairwise_singleton _ _
      | _ :: _ :: _, h => simp at h; omega
    have HS := Lib.hid hs
    clear hok hasc h hlen hs
    go_enter Try.func6, Try.ntmps6
    go_wp2
    go_ret
    exact ⟨l, by rw [HL.out]; rfl, HS.out, fun x hx => hx, fun h => h, by rw [HL.out]; exact HN0.out⟩
  clear hok hasc h hlen
  go_enter Try.func6, Try.ntmps6
  go_wp2_with fail
  go_loopg [5] (n - 1) (fun gk kv W => ∃ k : Nat, gk = n - k ∧ kv = .int .i64 k ∧ 1 ≤ k ∧ k ≤ n ∧ Str (l.take k) ∧ Now base g n cap l w0 W)
  case atStart =>
    refine ⟨1, rfl, rfl, Nat.le_refl _, by omega, ?_, HN0.out⟩
    have := HL.out
    match l, this with
    | [], _ => exact List.Pairwise.nil
    | x :: _, _ => exact List.pairwise_singleton _ _
  case round =>
    obtain ⟨k, hgk, rfl, hk1, hkn, hstr, hnow⟩ := hrel
    have HK := Lib.hid hgk
    have HSTR := Lib.hid hstr
    have HNOW := Lib.hid hnow
    by_cases hlt : k < n
    · obtain ⟨p, rfl⟩ : ∃ p, k = p + 1 := ⟨k - 1, by omega⟩
      obtain ⟨y, hy⟩ : ∃ y, l[p]? = some y := ⟨_, List.getElem?_eq_getElem (by have := HL.out; omega)⟩
      obtain ⟨x, hx⟩ : ∃ x, l[p + 1]? = some x := ⟨_, List.getElem?_eq_getElem (by have := HL.out; omega)⟩
      obtain ⟨c0, c1, c2⟩ := hnow.at_ hx
      obtain ⟨e0, e1, e2⟩ := hnow.at_ hy
      have hC := Lib.hid (fun W => eq_any x y (HOK.out x (List.mem_of_getElem? hx)) (HOK.out y (List.mem_of_getElem? hy)) W)
      have HXY := Lib.hid (And.intro hy hx)
      have hk3 : 0 ≤ (p : Int) + 1 := by omega
      have hk4 : (p : Int) + 1 < n := by omega
      have hk5 : (p : Int) < n := by omega
      have hk6 : IntKind.i64.wrap (p : Int) = p := IntWalk.i64_in _ (by omega)
      have hk2 : p < n := by omega
      rw [show ((p + 1 : Nat) : Int) = (p : Int) + 1 by omega]
      clear hgk hstr hnow hx hy
      go_upto_region 6 with fail
      go_cut [28] (fun cv W => ∃ c : Bool, cv = .bool c ∧ (c = true ↔ x.key = y.key) ∧ Now base g n cap l w0 W)
      case first =>
        generalize x.a = xa at c0 hC
        generalize x.b = xb at c1 hC
        generalize x.v = xv at c2 hC
        generalize y.a = ya at e0 hC
        generalize y.b = yb at e1 hC
        generalize y.v = yv at e2 hC
        go_still_tail 10, (by kernel_rfl)
        go_wp2_with fail
        refine (hC.out _).mono ?_
        rintro e w3 ⟨⟨v, rfl, hv⟩, hb⟩
        have HB3 := Lib.hid ((Below.refl _ wr).drew.trans hb)
        have HV := Lib.hid hv
        clear hb hv
        go_wp2_with fail
        go_meet
        case rel => exact ⟨_, rfl, HV.out, HNOW.out.later HB3.out⟩
      case rest =>
        obtain ⟨c, rfl, hct, hnow3⟩ := hcut
        obtain ⟨wb, rfl⟩ : ∃ wb : World, wb = wc := ⟨_, rfl⟩
        have HNOW3 := Lib.hid hnow3
        have HCT := Lib.hid hct
        clear hnow3 hct c0 c1 c2 e0 e1 e2
        have hlast : (l.take (p + 1)).getLast? = some y := by
          have h1 := (List.getElem?_eq_some_iff.1 HXY.out.1)
          obtain ⟨h1, h2⟩ := h1
          rw [List.take_succ_eq_append_getElem h1, h2]
          simp
        have HLAST := Lib.hid hlast
        clear hlast
        cases c with
        | false =>
          go_wp2_with fail
          go_roundg (n - (p + 1 + 1))
          case measure => have := HK.out; omega
          case rel =>
            have hle := asc_at Tri.key HASC.out HXY.out.1 HXY.out.2 (by omega)
            have hne : x.key ≠ y.key := fun h => by have := HCT.out.2 h; simp at this
            refine ⟨p + 1 + 1, rfl, by go_num, by omega, by omega, ?_, HNOW3.out⟩
            obtain ⟨h1, h2⟩ := List.getElem?_eq_some_iff.1 HXY.out.2
            rw [List.take_succ_eq_append_getElem h1, h2]
            exact HSTR.out.snoc HLAST.out (by omega)
        | true =>
          have hkey : x.key = y.key := HCT.out.1 (by first | rfl | trivial)
          have hcmp : Cmp base g n cap l (l.take (p + 1)) [] (p + 1) w0 wb := by
            refine ⟨by simpa using HNOW3.out, ?_, HSTR.out, fun z hz => List.mem_of_mem_take hz, ⟨y, x, HLAST.out, HXY.out.2, hkey.symm⟩⟩
            have := HL.out
            simp
            omega
          have HCMP := Lib.hid hcmp
          have hz4 : ¬ cap = p + 1 := by omega
          clear hcmp hkey hk3
          go_wp2_with fail
          obtain ⟨sl, hsl⟩ : ∃ sl, sl = n - (p + 1) := ⟨_, rfl⟩
          rw [← hsl]
          have HSL := Lib.hid hsl
          clear hsl
          go_loopg [5, 7] (n) (fun gk kv tv W => ∃ (t kc : Nat) (C D : List Tri), gk = n - t ∧ kv = .int .i64 kc ∧ tv = .int .i64 (t + 1 : Nat) ∧ C.length = kc ∧ 1 ≤ kc ∧ p + t + 1 < n ∧ Cmp base g n cap l C D (p + t + 1) w0 W)
          case atStart => exact ⟨0, p + 1, l.take (p + 1), [], rfl, by go_num, rfl, by have := HL.out; simp; omega, by omega, by omega, HCMP.out⟩
          case round =>
            obtain ⟨t, kc, C, D, hgk2, rfl, rfl, hCl, hkc, hpt, hcm2⟩ := hrel
            have HK2 := Lib.hid hgk2
            have HCM := Lib.hid hcm2
            have HCL := Lib.hid hCl
            have hdl := hcm2.len
            have hkcn : kc < n := by omega
            rw [show ((t + 1 : Nat) : Int) = (t : Int) + 1 by omega]
            have hsl := HSL.out
            by_cases hlt2 : p + t + 2 < n
            · have hts : (t : Int) + 1 < sl := by omega
              have hts2 : (t : Int) < sl := by omega
              have hts3 : t + 1 < sl := by omega
              have hts4 : t < sl := by omega
              have k3 : 0 ≤ (t : Int) + 1 := by omega
              have k6 : IntKind.i64.wrap (t : Int) = t := IntWalk.i64_in _ (by omega)
              obtain ⟨y, hy⟩ : ∃ y, l[p + t + 1]? = some y := ⟨_, List.getElem?_eq_getElem (by have := HL.out; omega)⟩
              obtain ⟨x, hx⟩ : ∃ x, l[p + t + 1 + 1]? = some x := ⟨_, List.getElem?_eq_getElem (by have := HL.out; omega)⟩
              obtain ⟨c0, c1, c2⟩ := hcm2.now.at_ (hcm2.at_ (by omega) hx)
              obtain ⟨e0, e1, e2⟩ := hcm2.now.at_ (hcm2.at_ (Nat.le_refl _) hy)
              rw [show (p + t + 1 + 1) * 3 = (p + 1) * 3 + (t + 1) * 3 by omega] at c0 c1 c2
              rw [show (p + t + 1) * 3 = (p + 1) * 3 + t * 3 by omega] at e0 e1 e2
              have hC2 := Lib.hid (fun W => eq_any x y (HOK.out x (List.mem_of_getElem? hx)) (HOK.out y (List.mem_of_getElem? hy)) W)
              have HXY2 := Lib.hid (And.intro hy hx)
              clear hgk2 hcm2 hx hy hCl hdl hsl
              go_upto_region 11 with fail
              go_cut [49] (fun cv W => ∃ c : Bool, cv = .bool c ∧ (c = false ↔ x.key = y.key) ∧ Now base g n cap (C ++ (D ++ l.drop (p + t + 1))) w0 W)
              case first =>
                generalize x.a = xa at c0 hC2
                generalize x.b = xb at c1 hC2
                generalize x.v = xv at c2 hC2
                generalize y.a = ya at e0 hC2
                generalize y.b = yb at e1 hC2
                generalize y.v = yv at e2 hC2
                go_still_tail 10, (by kernel_rfl)
                go_wp2_with fail
                refine (hC2.out _).mono ?_
                rintro e w3 ⟨⟨v, rfl, hv⟩, hb⟩
                have HB3 := Lib.hid ((Below.refl _ wr).drew.trans hb)
                have HV := Lib.hid hv
                clear hb hv
                go_wp2_with fail
                go_meet
                case rel =>
                  refine ⟨_, rfl, ?_, HCM.out.now.later HB3.out⟩
                  have := HV.out
                  cases v <;> simpa using this
              case rest =>
                obtain ⟨c, rfl, hct, hnow4⟩ := hcut
                obtain ⟨wd, rfl⟩ : ∃ wd : World, wd = wc := ⟨_, rfl⟩
                have HNOW4 := Lib.hid hnow4
                have HCT2 := Lib.hid hct
                clear hct c0 c1 c2 e0 e1 e2
                cases c with
                | false =>
                  clear hnow4
                  go_wp2_with fail
                  go_roundg (n - (t + 1))
                  case measure => have := HK2.out; omega
                  case rel =>
                    have h5 := HCM.out.skip HNOW4.out HXY2.out.1 HXY2.out.2 (HCT2.out.1 (by first | rfl | trivial))
                    exact ⟨t + 1, kc, C, _, rfl, rfl, by go_num, HCL.out, hkc, by omega, by rw [show p + (t + 1) + 1 = p + t + 1 + 1 by omega]; exact h5⟩
                | true =>
                  obtain ⟨z, hz⟩ : ∃ z, (C ++ (D ++ l.drop (p + t + 1)))[kc]? = some z := ⟨_, List.getElem?_eq_getElem (by rw [hnow4.len]; exact hkcn)⟩
                  obtain ⟨z0, z1, z2⟩ := hnow4.at_ hz
                  obtain ⟨c0, c1, c2⟩ := hnow4.at_ (HCM.out.at_ (by omega) HXY2.out.2)
                  rw [show (p + t + 1 + 1) * 3 = (p + 1) * 3 + (t + 1) * 3 by omega] at c0 c1 c2
                  have f0 := hnow4.own.frozenAt (kc * 3)
                  have f1 := hnow4.own.frozenAt (kc * 3 + 1)
                  have f2 := hnow4.own.frozenAt (kc * 3 + 2)
                  have k7 : (kc : Int) < n := by omega
                  obtain ⟨xa, hxa⟩ : ∃ v, v = x.a := ⟨_, rfl⟩
                  obtain ⟨xb, hxb⟩ : ∃ v, v = x.b := ⟨_, rfl⟩
                  obtain ⟨xv, hxv⟩ : ∃ v, v = x.v := ⟨_, rfl⟩
                  rw [← hxa] at c0
                  rw [← hxb] at c1
                  rw [← hxv] at c2
                  have HS3 := Lib.hid (hnow4.set (i := kc) (And.intro hxa (And.intro hxb hxv)))
                  clear hnow4 hz hxa hxb hxv
                  go_wp2_with fail
                  go_roundg (n - (t + 1))
                  case measure => have := HK2.out; omega
                  case rel =>
                    have h6 := HS3.out
                    rw [← HCL.out] at h6
                    obtain ⟨D', h5⟩ := HCM.out.keep HASC.out h6 HXY2.out.1 HXY2.out.2 (fun h => by have := HCT2.out.2 h; simp at this)
                    exact ⟨t + 1, kc + 1, C ++ [x], D', rfl, by go_num, by go_num, by have := HCL.out; simp; omega, by omega, by omega, by rw [show p + (t + 1) + 1 = p + t + 1 + 1 by omega, ← HCL.out]; exact h5⟩
            · have hts : ¬ (t : Int) + 1 < sl := by omega
              have k3 : ¬ cap = kc := by omega
              have k4 : (kc : Int) ≤ n := by omega
              have k5 : (kc : Int) ≤ cap := by omega
              obtain ⟨WC, hclr, hnC⟩ := clear_any hcm2.now hCl hkcn
              have HNC := Lib.hid hnC
              have HFIN := Lib.hid (And.intro hcm2.str hcm2.mem)
              clear hgk2 hcm2 hCl hdl hsl hnC
              go_wp2_with fail
              go_ret
              exact ⟨C, by rw [HCL.out]; rfl, HFIN.out.1, HFIN.out.2, fun _ e => by have := HCL.out; rw [e] at this; simp at this; omega, by rw [HCL.out]; exact HNC.out⟩
    · have hkn2 : k = n := by omega
      have hs : Str l := by rw [hkn2, ← HL.out, List.take_length] at hstr; exact hstr
      have HS := Lib.hid hs
      clear hgk hstr hnow hs hkn2
      go_wp2
      go_ret
      exact ⟨l, by rw [HL.out]; rfl, HS.out, fun x hx => hx, fun h => h, by rw [HL.out]; exact HNOW.out⟩
end Go.Proofs.Ytkfgmjcdaggjcaa.Kp
