/- How many bits eight has, walked. -/
import Derived.Test.YtgggpllmgnpngaaGreatDoorTbMap
import Derived.StillTailTactics
namespace Go.Proofs.YtgggpllmgnpngaaGreatDoor.Tb
open Go Go.RowKit

/-- The row's elements, by their numbers. -/
structure Now (base g n cap : Nat) (e : TypeId) (enc : Nat → Value) (l : List Nat) (w W : World) : Prop where
  len : l.length = n
  own : W.ownsRow base e 1 (.slice (some ⟨g, 0, none⟩) n cap) n (l.map enc)
  below : Below base w W
  low : base ≤ W.heap.size
def Asc (l : List Nat) : Prop := l.Pairwise (· ≤ ·)

section
variable {base g n cap : Nat} {e : TypeId} {enc : Nat → Value} {l : List Nat} {w W W' : World}
theorem Now.at_ (h : Now base g n cap e enc l w W) {j x : Nat} (hx : l[j]? = some x) : W.cell? ⟨g, j, none⟩ = some (enc x) := by
  have hj := (List.getElem?_eq_some_iff.1 hx).1
  rw [h.own.cellAt j (by have := h.len; omega)]
  simp [hx]
theorem Now.drewn (h : Now base g n cap e enc l w W) (q : Nat) : Now base g n cap e enc l w (W.drewN q) := ⟨h.len, h.own, below_drewN h.below q, h.low⟩
theorem Now.later (h : Now base g n cap e enc l w W) (k : Below W.heap.size W W') : Now base g n cap e enc l w W' :=
  ⟨h.len, own_block h.own (fun q hq => k.block q (h.own.lt q hq).2), h.below.trans (k.mono h.low), Nat.le_trans h.low k.size⟩
theorem own_drew {base n : Nat} {e : TypeId} {size : Nat} {v : Value} {xs : List Value} (h : W.ownsRow base e size v n xs) : W.drew.ownsRow base e size v n xs := h
theorem Now.swap {X R : List Nat} {x y k : Nat} (h : Now base g n cap e enc (X ++ y :: x :: R) w W) (hk : X.length = k) : Now base g n cap e enc (X ++ x :: y :: R) w ((W.setCell ⟨g, k + 1, none⟩ (enc y)).setCell ⟨g, k, none⟩ (enc x)).drew := by
  subst hk
  have o1 := (h.own.stored (X.length + 1) (enc y)).1
  have o2 := (o1.stored X.length (enc x)).1
  have hb : base ≤ g := (h.own.lt g rfl).1
  refine ⟨by have := h.len; simp at this ⊢; omega, ?_, ((h.below.setCell hb _).setCell hb _).drew, by have := h.low; simpa using this⟩
  have e1 : (((X ++ y :: x :: R).map enc).set (X.length + 1) (enc y)).set X.length (enc x) = (X ++ x :: y :: R).map enc := by
    rw [List.map_append, List.map_append]
    rw [List.set_append_right _ _ (by simp), List.set_append_right _ _ (by simp)]
    simp
  rw [e1] at o2
  exact own_drew o2
end

theorem asc_insert {P1 P2 : List Nat} {x : Nat} (h : Asc (P1 ++ P2)) (h2 : ∀ y ∈ P2, x < y) (h1 : P1 = [] ∨ ∃ Q y, P1 = Q ++ [y] ∧ y ≤ x) : Asc (P1 ++ x :: P2) := by
  have h1' : ∀ y ∈ P1, y ≤ x := by
    rcases h1 with rfl | ⟨Q, z, rfl, hz⟩
    · simp
    · intro y hy
      have hQ : (Q ++ [z]).Pairwise (· ≤ ·) := (List.pairwise_append.1 h).1
      rcases List.mem_append.1 hy with h | h
      · have := (List.pairwise_append.1 hQ).2.2 y h z (by simp)
        omega
      · simp at h; subst h; exact hz
  refine List.pairwise_append.2 ⟨(List.pairwise_append.1 h).1, List.pairwise_cons.2 ⟨fun y hy => Nat.le_of_lt (h2 y hy), (List.pairwise_append.1 h).2.1⟩, fun y hy z hz => ?_⟩
  rcases List.mem_cons.1 hz with rfl | hz
  · exact h1' y hy
  · exact (List.pairwise_append.1 h).2.2 y hy z hz

/-- Where the insertion stands. -/
structure Ins (base g n cap : Nat) (e : TypeId) (enc : Nat → Value) (S : List Nat) (P1 : List Nat) (x : Nat) (P2 R : List Nat) (w W : World) : Prop where
  now : Now base g n cap e enc (P1 ++ x :: (P2 ++ R)) w W
  perm : (P1 ++ x :: (P2 ++ R)).Perm S
  asc : Asc (P1 ++ P2)
  more : ∀ y ∈ P2, x < y

theorem open_first {α : Type} (X R : List α) (y : α) : (X ++ y :: R)[X.length]? = some y := by simp
theorem open_second {α : Type} (X R : List α) (x y : α) : (X ++ y :: x :: R)[X.length + 1]? = some x := by
  rw [List.getElem?_append_right (by omega)]; simp

def strV (k : Nat) : Value := .string (tag k)

set_option maxRecDepth 1000000 in
set_option maxHeartbeats 4000000 in
theorem ins_any (base g n cap : Nat) (S : List Nat) (w0 w : World) (hn : S.length = n) (hn0 : 0 < n) (hn12 : n ≤ 12) (hok : ∀ x ∈ S, x < 8) (h : Now base g n cap 9 strV S w0 w) :
    Calls Tryz.prog 66 #[.slice (some ⟨g, 0, none⟩) n cap, .int .i64 0, .int .i64 n] w fun e w' => e = .returned (.tuple #[]) ∧ ∃ S', S'.Perm S ∧ Asc S' ∧ Now base g n cap 9 strV S' w0 w' := by
  have HN := Lib.hid hn
  have HOK := Lib.hid hok
  have HN0 := Lib.hid h
  clear hn hok h
  go_enter Tryz.func66, Tryz.ntmps66
  go_wp2
  go_loopg [6] (n) (fun gk iv W => ∃ (i : Nat) (P R : List Nat), 1 ≤ i ∧ gk = n + 1 - i ∧ iv = .int .i64 i ∧ (P ++ R).Perm S ∧ Asc P ∧ (i ≤ n → P.length = i) ∧ i ≤ n ∧ Now base g n cap 9 strV (P ++ R) w0 W)
  case atStart =>
    cases S with
    | nil => have := HN.out; simp at this; omega
    | cons s S => exact ⟨1, [s], S, Nat.le_refl _, by omega, by go_num, by simp, List.pairwise_singleton _ _, fun h => by simp, by omega, by simpa using HN0.out⟩
  case round =>
    obtain ⟨i, P, R, hi1, hgk, rfl, hperm, hasc, hP, hin, hnow⟩ := hrel
    have HK := Lib.hid hgk
    have HPERM := Lib.hid hperm
    have HASC := Lib.hid hasc
    have HP := Lib.hid hP
    have HNOW := Lib.hid hnow
    clear hgk hperm hasc hP hnow
    by_cases hlt : i < n
    · have hPl := HP.out (by omega)
      obtain ⟨x, R', hRx⟩ : ∃ x R', R = x :: R' := by
        cases R with
        | nil => have h1 := HPERM.out.length_eq; have := HN.out; simp at h1; omega
        | cons x R' => exact ⟨x, R', rfl⟩
      have hI : Ins base g n cap 9 strV S P x [] R' w0 wr := by
        subst hRx
        exact ⟨by simpa using HNOW.out, by simpa using HPERM.out, by rw [List.append_nil]; exact HASC.out, by simp⟩
      have HI := Lib.hid hI
      have HPI := Lib.hid hPl
      clear hI hRx hPl
      go_wp2_with fail
      go_loopg [7] (P.length) (fun gk jv W => ∃ (P1 P2 : List Nat), gk = P1.length ∧ jv = .int .i64 (P1.length : Nat) ∧ P1.length + P2.length = i ∧ Ins base g n cap 9 strV S P1 x P2 R' w0 W)
      case atStart => exact ⟨P, [], rfl, by rw [HPI.out], by have := HPI.out; simp; omega, HI.out⟩
      case round =>
        obtain ⟨P1, P2, hgj, rfl, hpl, hin⟩ := hrel
        have HJ := Lib.hid hgj
        have HIN := Lib.hid hin
        have HPL := Lib.hid hpl
        clear hgj hpl
        rcases List.eq_nil_or_concat P1 with hP1 | ⟨Q, y, hQy⟩
        · have hj0 : ((P1.length : Nat) : Int) = (0 : Int) := by rw [hP1]; simp
          rw [hj0]
          have HP1 := Lib.hid hP1
          have hd2 : decide ((0 : Int) < (0 : Int)) = false := decide_eq_false (by omega)
          clear hin hP1 hj0
          go_upto_region 4 with fail
          go_quiet (fail)
          have HIN4 := Lib.hid (show Ins base g n cap 9 strV S P1 x P2 R' w0 (wr.drewN nq) from ⟨HIN.out.now.drewn nq, HIN.out.perm, HIN.out.asc, HIN.out.more⟩)
          go_wp2_with fail
          go_roundg (n + 1 - (i + 1))
          case measure => have := HK.out; omega
          case rel =>
            have h3 := HIN4.out
            refine ⟨i + 1, P1 ++ x :: P2, R', by omega, rfl, by go_num, ?_, asc_insert h3.asc h3.more (Or.inl HP1.out), fun h => ?_, by omega, ?_⟩
            · simpa using h3.perm
            · have := HPL.out; simp; omega
            · simpa using h3.now
        · rw [List.concat_eq_append] at hQy
          obtain ⟨k, hk⟩ : ∃ k, k = Q.length := ⟨_, rfl⟩
          have hj : ((P1.length : Nat) : Int) = (k : Int) + 1 := by rw [hQy, hk]; simp
          rw [hj]
          have e1 : P1 ++ x :: (P2 ++ R') = Q ++ y :: x :: (P2 ++ R') := by rw [hQy]; simp
          have hy : (Q ++ y :: x :: (P2 ++ R'))[k]? = some y := by rw [hk]; exact open_first _ _ _
          have hx : (Q ++ y :: x :: (P2 ++ R'))[k + 1]? = some x := by rw [hk]; exact open_second _ _ _ _
          have hkn : k + 1 < n := by
            have h1 := hin.now.len
            rw [e1] at h1
            have := (List.getElem?_eq_some_iff.1 hx).1
            omega
          have hk0 : (0 : Int) < (k : Int) + 1 := by omega
          have hk3 : 0 ≤ (k : Int) + 1 := by omega
          have hk4 : (k : Int) + 1 < n := by omega
          have hk5 : (k : Int) < n := by omega
          have hk6 : IntKind.i64.wrap (k : Int) = k := IntWalk.i64_in _ (by omega)
          have hk2 : k < n := by omega
          have hka : decide ((0 : Int) < (k : Int) + 1) = true := decide_eq_true (by omega)
          have hyS : y < 8 := HOK.out y (hin.perm.subset (by rw [hQy]; simp))
          have hxS : x < 8 := HOK.out x (hin.perm.subset (by simp))
          have HYX := Lib.hid (And.intro hy hx)
          have HE1 := Lib.hid e1
          have HQ := Lib.hid hQy
          have HKK := Lib.hid hk
          clear hin hy hx e1 hQy hk hj
          go_upto_region 4 with fail
          go_cut [30] (fun bv W => bv = .bool (decide (x < y)) ∧ Ins base g n cap 9 strV S P1 x P2 R' w0 W)
          case first =>
            have hnow := HIN.out.now
            rw [HE1.out] at hnow
            have c0 := hnow.at_ HYX.out.2
            have e0 := hnow.at_ HYX.out.1
            have hC := Lib.hid (fun W => less_tag x y hxS hyS W)
            unfold strV at c0 e0
            clear hnow
            generalize tag x = tx at c0 hC
            generalize tag y = ty at e0 hC
            go_quiet ((go_at_call 72; exact Calls.quiet_of_same ((hC.out _).mono fun _ _ h => ⟨h.1, h.2.symm⟩)))
            go_wp2_with fail
            go_meet
            case rel => exact ⟨rfl, ⟨HIN.out.now.drewn nq, HIN.out.perm, HIN.out.asc, HIN.out.more⟩⟩
          case rest =>
            obtain ⟨rfl, hin3⟩ := hcut
            obtain ⟨wb, rfl⟩ : ∃ wb : World, wb = wc := ⟨_, rfl⟩
            have HIN3 := Lib.hid hin3
            clear hin3
            by_cases hxy : x < y
            · have hdx : decide (x < y) = true := decide_eq_true hxy
              rw [hdx]
              have hnow := HIN3.out.now
              rw [HE1.out] at hnow
              have c0 := hnow.at_ HYX.out.2
              have e0 := hnow.at_ HYX.out.1
              have f0 := hnow.own.frozenAt (k + 1)
              have f1 := hnow.own.frozenAt k
              have HNW := Lib.hid (hnow.swap HKK.out.symm)
              have o1 : (strV x).oneCell' = true := rfl
              have o2 : (strV y).oneCell' = true := rfl
              clear hnow hdx
              unfold strV at c0 e0
              obtain ⟨tx, htx⟩ : ∃ t, t = tag x := ⟨_, rfl⟩
              obtain ⟨ty, hty⟩ : ∃ t, t = tag y := ⟨_, rfl⟩
              rw [← htx] at c0
              rw [← hty] at e0
              have HNW3 : Hid (Now base g n cap 9 strV (Q ++ x :: y :: (P2 ++ R')) w0 ((wb.setCell ⟨g, k + 1, none⟩ (.string ty)).setCell ⟨g, k, none⟩ (.string tx)).drew) := by
                rw [htx, hty]; exact HNW
              clear HNW htx hty
              go_wp2_with fail
              go_region
              clear f0 f1 c0 e0
              go_wp2_with fail
              go_roundg Q.length
              case measure => have := HJ.out; have h4 := HQ.out; rw [h4] at this; simp at this; omega
              case rel =>
                have h3 := HIN3.out
                have hQy := HQ.out
                refine ⟨Q, y :: P2, rfl, by rw [HKK.out], ?_, ⟨by simpa using HNW3.out, ?_, ?_, ?_⟩⟩
                · have := HPL.out; rw [hQy] at this; simp at this; simp; omega
                · refine List.Perm.trans ?_ h3.perm
                  rw [hQy]
                  simp only [List.append_assoc, List.cons_append, List.nil_append]
                  exact List.Perm.append_left _ (List.Perm.swap _ _ _)
                · have := h3.asc; rw [hQy] at this; simpa using this
                · intro z hz
                  rcases List.mem_cons.1 hz with rfl | hz
                  · exact hxy
                  · exact h3.more z hz
            · have hdx : decide (x < y) = false := decide_eq_false hxy
              rw [hdx]
              have hyx : y ≤ x := by omega
              clear hdx
              go_wp2_with fail
              go_roundg (n + 1 - (i + 1))
              case measure => have := HK.out; omega
              case rel =>
                have h3 := HIN3.out
                refine ⟨i + 1, P1 ++ x :: P2, R', by omega, rfl, by go_num, ?_, asc_insert h3.asc h3.more (Or.inr ⟨Q, y, HQ.out, hyx⟩), fun h => ?_, by omega, ?_⟩
                · simpa using h3.perm
                · have := HPL.out; simp; omega
                · simpa using h3.now
    · have hin2 : i = n := by omega
      have hPn := HP.out (by omega)
      have hRn : R = [] := by
        have h1 := HPERM.out.length_eq
        have := HN.out
        simp at h1
        exact List.eq_nil_of_length_eq_zero (by omega)
      have HRN := Lib.hid hRn
      clear hRn hPn hin2
      go_wp2
      go_end0
      refine ⟨rfl, P, ?_, HASC.out, ?_⟩
      · have := HPERM.out; rw [HRN.out] at this; simpa using this
      · have := HNOW.out; rw [HRN.out] at this; simpa using this
end Go.Proofs.YtgggpllmgnpngaaGreatDoor.Tb

namespace Go.Proofs.YtgggpllmgnpngaaGreatDoor.Tb
open Go Go.RowKit

set_option maxRecDepth 100000 in
theorem len64_any (w : World) : Calls Tryz.prog 62 #[.int .u64 8] w fun e w' => e = .returned (.int .i64 4) ∧ w = w' := by
  go_enter Tryz.func62, Tryz.ntmps62
  go_wp2
  go_ret
  exact ⟨by kernel_rfl, rfl⟩
theorem len_any (w : World) : Calls Tryz.prog 33 #[.int .u64 8] w fun e w' => e = .returned (.int .i64 4) ∧ w = w' := by
  go_enter Tryz.func33, Tryz.ntmps33
  go_wp2_with fail
  with_reducible refine (len64_any _).mono ?_
  rintro e w' ⟨rfl, hw⟩
  subst hw
  go_wp2_with fail
  go_ret
  exact ⟨rfl, rfl⟩

set_option maxRecDepth 1000000 in
set_option maxHeartbeats 2000000 in
theorem pdq_any (base g cap : Nat) (S : List Nat) (w0 w : World) (hn : S.length = 8) (hok : ∀ x ∈ S, x < 8) (h : Now base g 8 cap 9 strV S w0 w) :
    Calls Tryz.prog 45 #[.slice (some ⟨g, 0, none⟩) 8 cap, .int .i64 0, .int .i64 8, .int .i64 4] w fun e w' => e = .returned (.tuple #[]) ∧ ∃ S', S'.Perm S ∧ Asc S' ∧ Now base g 8 cap 9 strV S' w0 w' := by
  have H : Hid (Calls Tryz.prog 66 #[.slice (some ⟨g, 0, none⟩) 8 cap, .int .i64 0, .int .i64 8] w _) := Lib.hid (ins_any base g 8 cap S w0 w hn (by omega) (by omega) hok h)
  clear hn hok h
  go_enter Tryz.func45, Tryz.ntmps45
  go_wp2_with fail
  refine wp_loop_rounds 1 ?_
  rw [rounds_succ]
  go_wp2_with fail
  with_reducible refine H.out.mono ?_
  rintro e w1 ⟨rfl, S', h1, h2, h3⟩
  have HP := Lib.hid (And.intro h1 (And.intro h2 h3))
  clear h1 h2 h3 H
  go_wp2_with fail
  exact bodyPost_ret (results_none rfl _ _ _) rfl ⟨rfl, S', HP.out⟩

theorem sort_any (base g cap : Nat) (S : List Nat) (w0 w : World) (hn : S.length = 8) (hok : ∀ x ∈ S, x < 8) (h : Now base g 8 cap 9 strV S w0 w) :
    Calls Tryz.prog 24 #[.slice (some ⟨g, 0, none⟩) 8 cap] w fun e w' => e = .returned (.tuple #[]) ∧ ∃ S', S'.Perm S ∧ Asc S' ∧ Now base g 8 cap 9 strV S' w0 w' := by
  have H := Lib.hid (pdq_any base g cap S w0 w hn hok h)
  clear hn hok h
  go_enter Tryz.func24, Tryz.ntmps24
  go_wp2_with fail
  with_reducible refine (len_any _).mono ?_
  rintro e w' ⟨rfl, hw⟩
  subst hw
  go_wp2_with fail
  with_reducible refine H.out.mono ?_
  rintro e w1 ⟨rfl, S', h1, h2, h3⟩
  have HP := Lib.hid (And.intro h1 (And.intro h2 h3))
  clear h1 h2 h3 H
  go_wp2_with fail
  go_end0
  exact ⟨rfl, S', HP.out⟩

/-- The eight tags sorted. -/
theorem asc_eight (S : List Nat) (h : S.Perm (List.range 8)) (ha : Asc S) : S = List.range 8 :=
  List.Perm.eq_of_pairwise (fun a b _ _ h1 h2 => Nat.le_antisymm h1 h2) ha (by decide) h
end Go.Proofs.YtgggpllmgnpngaaGreatDoor.Tb
