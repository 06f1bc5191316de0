/- The records sorted: what comes out are the same records in some order. -/
import Derived.Test.YtdihfcmmnljchaaNmSome
import Derived.Deep.RegionWith
import Derived.StillTailTactics
import Derived.Deep.QuietTactic
import Derived.BigQuiet
namespace Go.Proofs.Ytdihfcmmnljchaa.Nm
open Go Go.RowKit

/-- The comparison: some number comes back. -/
theorem cmp_any (id1 id2 : Nat) (m1 m2 : Bool) (t1 t2 : ByteArray) (w : World) (h1 : id1 < 8) (h2 : id2 < 8) :
    Calls Try.prog 13 #[.agg #[.int .i64 id1, .bool m1, .string t1], .agg #[.int .i64 id2, .bool m2, .string t2]] w fun e w' => (∃ i : Int, -8 ≤ i ∧ i ≤ 8 ∧ e = .returned (.int .i64 i)) ∧ Below w.heap.size w w' := by
  have hb : Below w.heap.size w ((w.alloc (.cells #[.int .i64 id1, .bool m1, .string t1] 35)).alloc (.cells #[.int .i64 id2, .bool m2, .string t2] 35)) := ((Below.refl _ _).alloc (Nat.le_refl _) _).alloc (by simp) _
  have HB := Lib.hid hb
  clear hb
  cases m1 <;> cases m2
  all_goals
    go_enter Try.func13, Try.ntmps13
    go_wp2
    go_ret
    exact ⟨⟨_, by omega, by omega, rfl⟩, HB.out⟩

theorem recCells_len (l : List Rec) : (recCells l).length = l.length * 3 := by
  induction l with
  | nil => rfl
  | cons x l ih =>
    have : recCells (x :: l) = x.cells ++ recCells l := by simp [recCells]
    rw [this, List.length_append, ih, List.length_cons]
    simp [Rec.cells]
    omega
theorem recCells_get (l : List Rec) : ∀ (k : Nat) (x : Rec), l[k]? = some x → (recCells l)[k * 3]? = some (.int .i64 (x.id : Nat)) ∧ (recCells l)[k * 3 + 1]? = some (.bool x.mac) ∧ (recCells l)[k * 3 + 2]? = some (.string (str x.runes)) := by
  induction l with
  | nil => intro k x h; simp at h
  | cons y l ih =>
    intro k x h
    have e : recCells (y :: l) = .int .i64 (y.id : Nat) :: .bool y.mac :: .string (str y.runes) :: recCells l := by simp [recCells, Rec.cells]
    rw [e]
    cases k with
    | zero => simp at h; subst h; exact ⟨rfl, rfl, rfl⟩
    | succ k =>
      have := ih k x (by simpa using h)
      rw [show (k + 1) * 3 = k * 3 + 1 + 1 + 1 by omega]
      simpa using this

/-- The row of records, in some order. -/
structure Sorts (base g n cap : Nat) (l l' : List Rec) (w W : World) : Prop where
  perm : l'.Perm l
  own : W.ownsRow base 35 3 (.slice (some ⟨g, 0, none⟩) n cap) n (recCells l')
  below : Below base w W
  low : base ≤ W.heap.size

theorem Sorts.at_ {base g n cap : Nat} {l l' : List Rec} {w W : World} (h : Sorts base g n cap l l' w W) (hl : l.length = n) (hok : ∀ x ∈ l, x.id < 8) {j : Nat} (hj : j < n) :
    ∃ x, l'[j]? = some x ∧ x.id < 8 ∧ W.cell? ⟨g, j * 3, none⟩ = some (.int .i64 (x.id : Nat)) ∧ W.cell? ⟨g, j * 3 + 1, none⟩ = some (.bool x.mac) ∧ W.cell? ⟨g, j * 3 + 2, none⟩ = some (.string (str x.runes)) := by
  have hl' : l'.length = n := by rw [h.perm.length_eq, hl]
  have hx : l'[j]? = some (l'[j]'(by omega)) := List.getElem?_eq_getElem (by omega)
  have hc := recCells_get l' j _ hx
  refine ⟨_, hx, hok _ (h.perm.subset (List.getElem_mem _)), ?_, ?_, ?_⟩
  · rw [h.own.cellAt _ (by omega)]; exact hc.1
  · rw [h.own.cellAt _ (by omega)]; exact hc.2.1
  · rw [h.own.cellAt _ (by omega)]; exact hc.2.2

theorem Sorts.drewn {base g n cap : Nat} {l l' : List Rec} {w W : World} (h : Sorts base g n cap l l' w W) (q : Nat) : Sorts base g n cap l l' w (W.drewN q) :=
  ⟨h.perm, h.own, below_drewN h.below q, h.low⟩

theorem Sorts.later {base g n cap : Nat} {l l' : List Rec} {w W W' : World} (h : Sorts base g n cap l l' w W) (hb : Below W.drew.heap.size W.drew W') : Sorts base g n cap l l' w W' :=
  ⟨h.perm, own_block h.own (fun q hq => hb.block q (h.own.lt q hq).2), h.below.drew.trans (hb.mono h.low), Nat.le_trans h.low hb.size⟩

theorem two_open {l : List Rec} {k : Nat} {x y : Rec} (hx : l[k + 1]? = some x) (hy : l[k]? = some y) : l = l.take k ++ y :: x :: l.drop (k + 2) := by
  obtain ⟨h1, e1⟩ := List.getElem?_eq_some_iff.1 hx
  obtain ⟨h2, e2⟩ := List.getElem?_eq_some_iff.1 hy
  conv => lhs; rw [← List.take_append_drop k l]
  rw [List.drop_eq_getElem_cons h2, e2, List.drop_eq_getElem_cons h1, e1]
theorem set_at (P Q : List Value) (i m : Nat) (v : Value) (h : m = P.length + i) : (P ++ Q).set m v = P ++ Q.set i v := by
  subst h
  rw [List.set_append_right _ _ (by omega)]
  congr 2
  omega
theorem six_sets (x y : Rec) (S : List Value) : ((((((y.cells ++ (x.cells ++ S)).set 3 (.int .i64 (y.id : Nat))).set 4 (.bool y.mac)).set 5 (.string (str y.runes))).set 0 (.int .i64 (x.id : Nat))).set 1 (.bool x.mac)).set 2 (.string (str x.runes)) = x.cells ++ (y.cells ++ S) := by
  simp only [Rec.cells, List.cons_append, List.nil_append, List.set_cons_succ, List.set_cons_zero]
theorem own_drew {w : World} {base n : Nat} {e : TypeId} {size : Nat} {v : Value} {xs : List Value} (h : w.ownsRow base e size v n xs) : w.drew.ownsRow base e size v n xs := h
theorem Sorts.swap {base g n cap : Nat} {l l' : List Rec} {w W : World} {k : Nat} {x y : Rec} {xi yi : Nat} {xm ym : Bool} {tx ty : ByteArray} (h : Sorts base g n cap l l' w W) (hx : l'[k + 1]? = some x) (hy : l'[k]? = some y)
    (hq : xi = x.id ∧ xm = x.mac ∧ tx = str x.runes ∧ yi = y.id ∧ ym = y.mac ∧ ty = str y.runes) :
    Sorts base g n cap l (l'.take k ++ x :: y :: l'.drop (k + 2)) w ((((((W.setCell ⟨g, (k + 1) * 3, none⟩ (.int .i64 yi)).setCell ⟨g, (k + 1) * 3 + 1, none⟩ (.bool ym)).setCell ⟨g, (k + 1) * 3 + 2, none⟩ (.string ty)).setCell ⟨g, k * 3, none⟩ (.int .i64 xi)).setCell ⟨g, k * 3 + 1, none⟩ (.bool xm)).setCell ⟨g, k * 3 + 2, none⟩ (.string tx)).drew := by
  obtain ⟨rfl, rfl, rfl, rfl, rfl, rfl⟩ := hq
  have hd := two_open hx hy
  have hk : k ≤ l'.length := by have := (List.getElem?_eq_some_iff.1 hy).1; omega
  have hP : (recCells (l'.take k)).length = k * 3 := by rw [recCells_len, List.length_take, Nat.min_eq_left hk]
  have e1 : recCells l' = recCells (l'.take k) ++ (y.cells ++ (x.cells ++ recCells (l'.drop (k + 2)))) := by
    conv => lhs; rw [hd]
    simp [recCells]
  have e2 : recCells (l'.take k ++ x :: y :: l'.drop (k + 2)) = recCells (l'.take k) ++ (x.cells ++ (y.cells ++ recCells (l'.drop (k + 2)))) := by simp [recCells]
  have o1 := (h.own.stored ((k + 1) * 3) (.int .i64 (y.id : Nat))).1
  have o2 := (o1.stored ((k + 1) * 3 + 1) (.bool y.mac)).1
  have o3 := (o2.stored ((k + 1) * 3 + 2) (.string (str y.runes))).1
  have o4 := (o3.stored (k * 3) (.int .i64 (x.id : Nat))).1
  have o5 := (o4.stored (k * 3 + 1) (.bool x.mac)).1
  have o6 := (o5.stored (k * 3 + 2) (.string (str x.runes))).1
  have hb : base ≤ g := (h.own.lt g rfl).1
  refine ⟨?_, ?_, ?_, ?_⟩
  · refine List.Perm.trans ?_ h.perm
    conv => rhs; rw [hd]
    exact List.Perm.append_left _ (List.Perm.swap _ _ _)
  · rw [e2]
    rw [e1, set_at _ _ 3 _ _ (by omega), set_at _ _ 4 _ _ (by omega), set_at _ _ 5 _ _ (by omega), set_at _ _ 0 _ _ (by omega), set_at _ _ 1 _ _ (by omega), set_at _ _ 2 _ _ (by omega), six_sets] at o6
    exact own_drew o6
  · exact ((((((h.below.setCell hb _).setCell hb _).setCell hb _).setCell hb _).setCell hb _).setCell hb _).drew
  · have := h.low; simpa using this

set_option maxRecDepth 100000 in
set_option maxHeartbeats 4000000 in
theorem insort_any (base g n cap : Nat) (l : List Rec) (w : World) (hl : l.length = n) (hn10 : n ≤ 10) (hok : ∀ x ∈ l, x.id < 8) (hown : w.ownsRow base 35 3 (.slice (some ⟨g, 0, none⟩) n cap) n (recCells l)) (hlow : base ≤ w.heap.size) :
    Calls Try.prog 26 #[.slice (some ⟨g, 0, none⟩) n cap, .int .i64 0, .int .i64 n, .func (.func 13) #[] #[]] w fun e w' => e = .returned (.tuple #[]) ∧ ∃ l', Sorts base g n cap l l' w w' := by
  have HL := Lib.hid hl
  have HOK := Lib.hid hok
  have hs : Sorts base g n cap l l w w := ⟨List.Perm.refl _, hown, Below.refl _ _, hlow⟩
  have HS0 := Lib.hid hs
  clear hl hok hown hs hlow
  go_enter Try.func26, Try.ntmps26
  go_wp2
  go_loopg [8] (n) (fun gk iv W => ∃ (i : Nat) (l' : List Rec), 1 ≤ i ∧ i ≤ n + 1 ∧ gk = n + 1 - i ∧ iv = .int .i64 i ∧ Sorts base g n cap l l' w W)
  case atStart => exact ⟨1, l, Nat.le_refl _, by omega, by omega, rfl, HS0.out⟩
  case round =>
    obtain ⟨i, l', hi1, hin, hgk, rfl, hs⟩ := hrel
    have HK := Lib.hid hgk
    have HS := Lib.hid hs
    clear hgk hs
    by_cases hlt : i < n
    · go_wp2_with fail
      obtain ⟨wo, rfl⟩ : ∃ wo : World, wo = wr := ⟨_, rfl⟩
      go_loopg [9] (i) (fun gk jv W => ∃ (j : Nat) (l' : List Rec), j ≤ i ∧ gk = j ∧ jv = .int .i64 j ∧ Sorts base g n cap l l' w W)
      case atStart => exact ⟨i, l', Nat.le_refl _, rfl, rfl, HS.out⟩
      case round =>
        obtain ⟨j, l2, hj, hgj, rfl, hs2⟩ := hrel
        have HJ := Lib.hid hgj
        have HS2 := Lib.hid hs2
        clear hgj
        go_upto_region 4 with fail
        go_cut [34] (fun bv W => ∃ b : Bool, bv = .bool b ∧ (b = true → 0 < j) ∧ Sorts base g n cap l l2 w W)
        case first =>
          cases j with
          | succ k =>
            obtain ⟨x, hx, hxid, c0, c1, c2⟩ := hs2.at_ HL.out HOK.out (j := k + 1) (by omega)
            obtain ⟨y, hy, hyid, e0, e1, e2⟩ := hs2.at_ HL.out HOK.out (j := k) (by omega)
            generalize str x.runes = tx at c2
            generalize str y.runes = ty at e2
            generalize x.id = xi at c0 hxid
            generalize y.id = yi at e0 hyid
            generalize x.mac = xm at c1
            generalize y.mac = ym at e1
            have hC := Lib.hid (fun W => cmp_any xi yi xm ym tx ty W hxid hyid)
            have hk0 : (0 : Int) < (k : Int) + 1 := by omega
            have hk3 : 0 ≤ (k : Int) + 1 := by omega
            have hk4 : (k : Int) + 1 < n := by omega
            have hk5 : (k : Int) < n := by omega
            have hk6 : IntKind.i64.wrap (k : Int) = k := IntWalk.i64_in _ (by omega)
            have hk1 : k + 1 < n := by omega
            have hk2 : k < n := by omega
            clear hx hy hxid hyid hs2
            go_still_tail 14, (by kernel_rfl)
            go_wp2_with fail
            refine (hC.out _).mono ?_
            rintro e w3 ⟨⟨v, hv1, hv2, rfl⟩, hb⟩
            have HB3 := Lib.hid hb
            clear hb
            go_wp2_with fail
            go_meet
            case rel => exact ⟨_, rfl, fun _ => Nat.succ_pos k, HS2.out.later HB3.out⟩
          | zero =>
            have hd : decide ((0 : Int) < 0) = false := by decide
            clear hs2
            go_quiet (fail)
            go_wp2_with fail
            go_meet
            case rel => exact ⟨false, rfl, by simp, HS2.out.drewn nq⟩
        case rest =>
          obtain ⟨b, rfl, hpos, hs3⟩ := hcut
          obtain ⟨wb, rfl⟩ : ∃ wb : World, wb = wc := ⟨_, rfl⟩
          have HS3 := Lib.hid hs3
          clear hs2
          cases b with
          | false =>
            clear hs3 hpos
            go_wp2_with fail
            go_roundg (n + 1 - (i + 1))
            case measure => have := HK.out; omega
            case rel => exact ⟨i + 1, l2, by omega, by omega, rfl, by go_num, HS3.out⟩
          | true =>
            cases j with
            | zero => exact absurd (hpos rfl) (by omega)
            | succ k =>
              obtain ⟨x, hx, hxid, c0, c1, c2⟩ := hs3.at_ HL.out HOK.out (j := k + 1) (by omega)
              obtain ⟨y, hy, hyid, e0, e1, e2⟩ := hs3.at_ HL.out HOK.out (j := k) (by omega)
              have f0 := hs3.own.frozenAt ((k + 1) * 3)
              have f1 := hs3.own.frozenAt ((k + 1) * 3 + 1)
              have f2 := hs3.own.frozenAt ((k + 1) * 3 + 2)
              have f3 := hs3.own.frozenAt (k * 3)
              have f4 := hs3.own.frozenAt (k * 3 + 1)
              have f5 := hs3.own.frozenAt (k * 3 + 2)
              have HX := Lib.hid hx
              have HY := Lib.hid hy
              have hk3 : 0 ≤ (k : Int) + 1 := by omega
              have hk4 : (k : Int) + 1 < n := by omega
              have hk5 : (k : Int) < n := by omega
              have hk6 : IntKind.i64.wrap (k : Int) = k := IntWalk.i64_in _ (by omega)
              have hk1 : k + 1 < n := by omega
              have hk2 : k < n := by omega
              obtain ⟨xi, hxi⟩ : ∃ v, v = x.id := ⟨_, rfl⟩
              obtain ⟨xm, hxm⟩ : ∃ v, v = x.mac := ⟨_, rfl⟩
              obtain ⟨tx, htx⟩ : ∃ v, v = str x.runes := ⟨_, rfl⟩
              obtain ⟨yi, hyi⟩ : ∃ v, v = y.id := ⟨_, rfl⟩
              obtain ⟨ym, hym⟩ : ∃ v, v = y.mac := ⟨_, rfl⟩
              obtain ⟨ty, hty⟩ : ∃ v, v = str y.runes := ⟨_, rfl⟩
              rw [← hxi] at c0
              rw [← hxm] at c1
              rw [← htx] at c2
              rw [← hyi] at e0
              rw [← hym] at e1
              rw [← hty] at e2
              have HQ := Lib.hid (And.intro hxi (And.intro hxm (And.intro htx (And.intro hyi (And.intro hym hty)))))
              clear hs3 hpos hx hy hxid hyid hxi hxm htx hyi hym hty
              go_wp2_with fail
              go_region
              have R := HS3.out.swap HX.out HY.out HQ.out
              have HR := Lib.hid R
              clear R f0 f1 f2 f3 f4 f5 c0 c1 c2 e0 e1 e2
              go_wp2_with fail
              go_roundg k
              case measure => have := HJ.out; omega
              case rel => exact ⟨k, _, by omega, rfl, rfl, HR.out⟩
    · go_wp2
      go_end0
      exact ⟨rfl, l', HS.out⟩
end Go.Proofs.Ytdihfcmmnljchaa.Nm
