/- A part of the row sorted by insertion, walked. -/
import Derived.Test.YtkfgmjcdaggjcaaKpNow
namespace Go.Proofs.Ytkfgmjcdaggjcaa.Kp
open Go Go.RowKit

theorem asc_insert {P1 P2 : List Tri} {x : Tri} (h : Asc Tri.key (P1 ++ P2)) (h2 : ∀ y ∈ P2, x.key < y.key) (h1 : P1 = [] ∨ ∃ Q y, P1 = Q ++ [y] ∧ y.key ≤ x.key) : Asc Tri.key (P1 ++ x :: P2) := by
  have h1' : ∀ y ∈ P1, y.key ≤ x.key := by
    rcases h1 with rfl | ⟨Q, z, rfl, hz⟩
    · simp
    · intro y hy
      have hQ := asc_left Tri.key h
      rcases List.mem_append.1 hy with h | h
      · have := (List.pairwise_append.1 hQ).2.2 y h z (by simp)
        omega
      · simp at h; subst h; exact hz
  refine List.pairwise_append.2 ⟨asc_left _ h, List.pairwise_cons.2 ⟨fun y hy => Nat.le_of_lt (h2 y hy), asc_right _ h⟩, fun y hy z hz => ?_⟩
  rcases List.mem_cons.1 hz with rfl | hz
  · exact h1' y hy
  · exact (List.pairwise_append.1 h).2.2 y hy z hz

/-- Where the insertion stands: the first ones sorted, x on its way down. -/
structure Ins (base g n cap : Nat) (A S B : List Tri) (P1 : List Tri) (x : Tri) (P2 R : List Tri) (w W : World) : Prop where
  now : Now base g n cap (A ++ (P1 ++ x :: (P2 ++ (R ++ B)))) w W
  perm : (P1 ++ x :: (P2 ++ R)).Perm S
  asc : Asc Tri.key (P1 ++ P2)
  more : ∀ y ∈ P2, x.key < y.key

theorem swap_adj {base g n cap : Nat} {w W : World} {X R : List Tri} {x y : Tri} {xa xb ya yb : Nat} {xv yv : Int} {k : Nat} (h : Now base g n cap (X ++ y :: x :: R) w W) (hk : X.length = k) (hq : xa = x.a ∧ xb = x.b ∧ xv = x.v ∧ ya = y.a ∧ yb = y.b ∧ yv = y.v) :
    Now base g n cap (X ++ x :: y :: R) w ((((((W.setCell ⟨g, (k + 1) * 3, none⟩ (.int .i64 ya)).setCell ⟨g, (k + 1) * 3 + 1, none⟩ (.int .i64 yb)).setCell ⟨g, (k + 1) * 3 + 2, none⟩ (.int .i64 yv)).setCell ⟨g, k * 3, none⟩ (.int .i64 xa)).setCell ⟨g, k * 3 + 1, none⟩ (.int .i64 xb)).setCell ⟨g, k * 3 + 2, none⟩ (.int .i64 xv)).drew := by
  subst hk
  have := h.swap (i := X.length + 1) (j := X.length) hq
  have e := swap_open' X [] R y x
  simp only [List.length_nil, Nat.add_zero, List.nil_append] at e
  rw [e] at this
  exact this

set_option maxRecDepth 1000000 in
set_option maxHeartbeats 4000000 in
theorem ins_any (base g n cap a b : Nat) (A S B : List Tri) (w0 w : World) (ha : A.length = a) (hb : a + S.length = b) (hn60 : n ≤ 60) (hok : ∀ x ∈ S, Tri.Ok x) (h : Now base g n cap (A ++ (S ++ B)) w0 w) :
    Calls Try.prog 13 #[.slice (some ⟨g, 0, none⟩) n cap, .int .i64 a, .int .i64 b, .func (.func 5) #[] #[]] w fun e w' => e = .returned (.tuple #[]) ∧ ∃ S', S'.Perm S ∧ Asc Tri.key S' ∧ Now base g n cap (A ++ (S' ++ B)) w0 w' := by
  have hlen := h.len
  rw [List.length_append, List.length_append] at hlen
  have HA := Lib.hid ha
  have HB := Lib.hid hb
  have HOK := Lib.hid hok
  have HN0 := Lib.hid h
  have HLEN := Lib.hid hlen
  have hbn : b ≤ n := by omega
  have hab : a ≤ b := by omega
  clear ha hb hok h hlen
  go_enter Try.func13, Try.ntmps13
  go_wp2
  go_loopg [8] (b - a) (fun gk iv W => ∃ (i : Nat) (P R : List Tri), a + 1 ≤ i ∧ gk = b + 1 - i ∧ iv = .int .i64 i ∧ (P ++ R).Perm S ∧ Asc Tri.key P ∧ (i < b → P.length = i - a) ∧ (b ≤ i → R = []) ∧ i ≤ b + 1 ∧ Now base g n cap (A ++ (P ++ (R ++ B))) w0 W)
  case atStart =>
    cases S with
    | nil => exact ⟨a + 1, [], [], Nat.le_refl _, by have := HB.out; simp at this; omega, by go_num, by simp, List.Pairwise.nil, fun h => by have := HB.out; simp at this; omega, fun _ => rfl, by omega, by simpa using HN0.out⟩
    | cons s S =>
      refine ⟨a + 1, [s], S, Nat.le_refl _, ?_, by go_num, by simp, List.pairwise_singleton _ _, fun h => by simp, fun h => ?_, by omega, by simpa using HN0.out⟩
      · have := HB.out; simp at this; omega
      · have := HB.out; simp at this; exact List.eq_nil_of_length_eq_zero (by omega)
  case round =>
    obtain ⟨i, P, R, hi1, hgk, rfl, hperm, hasc, hP, hR, hib, hnow⟩ := hrel
    have HK := Lib.hid hgk
    have HPERM := Lib.hid hperm
    have HASC := Lib.hid hasc
    have HP := Lib.hid hP
    have HR := Lib.hid hR
    have HNOW := Lib.hid hnow
    clear hgk hperm hasc hP hR hnow
    by_cases hlt : i < b
    · have hPl := HP.out hlt
      obtain ⟨x, R', hRx⟩ : ∃ x R', R = x :: R' := by
        cases R with
        | nil => have h1 := HPERM.out.length_eq; have := HB.out; simp at h1; omega
        | cons x R' => exact ⟨x, R', rfl⟩
      have hI : Ins base g n cap A S B P x [] R' w0 wr := by
        subst hRx
        exact ⟨by simpa using HNOW.out, by simpa using HPERM.out, by rw [List.append_nil]; exact HASC.out, by simp⟩
      have HI := Lib.hid hI
      have hPi : a + P.length = i := by omega
      have HPI := Lib.hid hPi
      clear hI hRx hPl hPi
      go_wp2_with fail
      go_loopg [9] (P.length) (fun gk jv W => ∃ (P1 P2 : List Tri), gk = P1.length ∧ jv = .int .i64 (a + P1.length : Nat) ∧ P1.length + P2.length = i - a ∧ Ins base g n cap A S B P1 x P2 R' w0 W)
      case atStart => exact ⟨P, [], rfl, by rw [HPI.out], by have := HPI.out; simp; omega, HI.out⟩
      case round =>
        obtain ⟨P1, P2, hgj, rfl, hpl, hin⟩ := hrel
        have HJ := Lib.hid hgj
        have HIN := Lib.hid hin
        have HPL := Lib.hid hpl
        clear hgj hpl
        rcases List.eq_nil_or_concat P1 with hP1 | ⟨Q, y, hQy⟩
        · have hj0 : ((a + P1.length : Nat) : Int) = (a : Int) := by rw [hP1]; simp
          rw [hj0]
          have HP1 := Lib.hid hP1
          have hd2 : decide ((a : Int) < (a : Int)) = false := decide_eq_false (by omega)
          clear hin hP1 hj0
          go_upto_region 4 with fail
          go_quiet (fail)
          have HIN4 := Lib.hid (show Ins base g n cap A S B P1 x P2 R' w0 (wr.drewN nq) from ⟨HIN.out.now.drewn nq, HIN.out.perm, HIN.out.asc, HIN.out.more⟩)
          go_wp2_with fail
          go_roundg (b + 1 - (i + 1))
          case measure => have := HK.out; omega
          case rel =>
            have h3 := HIN4.out
            have hl := h3.perm.length_eq
            simp at hl
            refine ⟨i + 1, P1 ++ x :: P2, R', by omega, rfl, by go_num, ?_, asc_insert h3.asc h3.more (Or.inl HP1.out), fun h => ?_, fun h => ?_, by omega, ?_⟩
            · simpa using h3.perm
            · have := HPL.out; simp; omega
            · have := HPL.out; have := HB.out; exact List.eq_nil_of_length_eq_zero (by omega)
            · simpa using h3.now
        · rw [List.concat_eq_append] at hQy
          obtain ⟨k, hk⟩ : ∃ k, k = a + Q.length := ⟨_, rfl⟩
          have hj : ((a + P1.length : Nat) : Int) = (k : Int) + 1 := by rw [hQy, hk]; simp; omega
          rw [hj]
          have e1 : A ++ (P1 ++ x :: (P2 ++ (R' ++ B))) = (A ++ Q) ++ y :: x :: (P2 ++ (R' ++ B)) := by rw [hQy]; simp
          have hkl : (A ++ Q).length = k := by rw [List.length_append, HA.out, hk]
          have hy : ((A ++ Q) ++ y :: x :: (P2 ++ (R' ++ B)))[k]? = some y := by rw [← hkl]; exact open_first _ _ _
          have hx : ((A ++ Q) ++ y :: x :: (P2 ++ (R' ++ B)))[k + 1]? = some x := by rw [← hkl]; exact open_second _ [] _ _ _
          have hkn : k + 1 < n := by
            have h1 := hin.now.len
            rw [e1] at h1
            have := (List.getElem?_eq_some_iff.1 hx).1
            omega
          have hk0 : (0 : Int) < (k : Int) + 1 := by omega
          have hk3 : 0 ≤ (k : Int) + 1 := by omega
          have hk4 : (k : Int) + 1 < n := by omega
          have hk5 : (k : Int) < n := by omega
          have hk6 : IntKind.i64.wrap (k : Int) = k := IntWalk.i64_in _ (by omega)
          have hk2 : k < n := by omega
          have hka : decide ((a : Int) < (k : Int) + 1) = true := decide_eq_true (by omega)
          have hyS : y ∈ S := hin.perm.subset (by rw [hQy]; simp)
          have hxS : x ∈ S := hin.perm.subset (by simp)
          have HYX := Lib.hid (And.intro hy hx)
          have HE1 := Lib.hid e1
          have HKL := Lib.hid hkl
          have HQ := Lib.hid hQy
          have HKK := Lib.hid hk
          have hxok := HOK.out x hxS
          have hyok := HOK.out y hyS
          have HXY := Lib.hid (And.intro hxok hyok)
          clear hin hy hx e1 hkl hQy hk hj hyS hxS hxok hyok
          go_upto_region 4 with fail
          go_cut [34] (fun bv W => ∃ c : Bool, bv = .bool c ∧ (c = true → x.key < y.key) ∧ (c = false → y.key ≤ x.key) ∧ Ins base g n cap A S B P1 x P2 R' w0 W)
          case first =>
            have hnow := HIN.out.now
            rw [HE1.out] at hnow
            obtain ⟨c0, c1, c2⟩ := hnow.at_ HYX.out.2
            obtain ⟨e0, e1, e2⟩ := hnow.at_ HYX.out.1
            have hC := Lib.hid (fun W => cmp_any x y HXY.out.1 HXY.out.2 W)
            clear hnow
            generalize x.a = xa at c0 hC
            generalize x.b = xb at c1 hC
            generalize x.v = xv at c2 hC
            generalize y.a = ya at e0 hC
            generalize y.b = yb at e1 hC
            generalize y.v = yv at e2 hC
            go_still_tail 14, (by kernel_rfl)
            go_wp2_with fail
            refine (hC.out _).mono ?_
            rintro e w3 ⟨⟨v, rfl, hv⟩, hb⟩
            have HB3 := Lib.hid ((Below.refl _ wr).drew.trans hb)
            have HV := Lib.hid hv
            clear hb hv
            go_wp2_with fail
            go_meet
            case rel =>
              refine ⟨_, rfl, fun h => ?_, fun h => ?_, ⟨HIN.out.now.later HB3.out, HIN.out.perm, HIN.out.asc, HIN.out.more⟩⟩
              · simp at h; exact HV.out.1 h
              · simp at h
                have h5 := HV.out
                omega
          case rest =>
            obtain ⟨c, rfl, hct, hcf, hin3⟩ := hcut
            obtain ⟨wb, rfl⟩ : ∃ wb : World, wb = wc := ⟨_, rfl⟩
            have HIN3 := Lib.hid hin3
            have HCT := Lib.hid hct
            have HCF := Lib.hid hcf
            clear hin3 hct hcf
            cases c with
            | false =>
              go_wp2_with fail
              go_roundg (b + 1 - (i + 1))
              case measure => have := HK.out; omega
              case rel =>
                have h3 := HIN3.out
                have hl := h3.perm.length_eq
                simp at hl
                refine ⟨i + 1, P1 ++ x :: P2, R', by omega, rfl, by go_num, ?_, asc_insert h3.asc h3.more (Or.inr ⟨Q, y, HQ.out, HCF.out (by first | rfl | trivial)⟩), fun h => ?_, fun h => ?_, by omega, ?_⟩
                · simpa using h3.perm
                · have := HPL.out; simp; omega
                · have := HPL.out; have := HB.out; exact List.eq_nil_of_length_eq_zero (by omega)
                · simpa using h3.now
            | true =>
              have hnow := HIN3.out.now
              rw [HE1.out] at hnow
              obtain ⟨c0, c1, c2⟩ := hnow.at_ HYX.out.2
              obtain ⟨e0, e1, e2⟩ := hnow.at_ HYX.out.1
              have f0 := hnow.own.frozenAt ((k + 1) * 3)
              have f1 := hnow.own.frozenAt ((k + 1) * 3 + 1)
              have f2 := hnow.own.frozenAt ((k + 1) * 3 + 2)
              have f3 := hnow.own.frozenAt (k * 3)
              have f4 := hnow.own.frozenAt (k * 3 + 1)
              have f5 := hnow.own.frozenAt (k * 3 + 2)
              have HNW := Lib.hid hnow
              obtain ⟨xa, hxa⟩ : ∃ v, v = x.a := ⟨_, rfl⟩
              obtain ⟨xb, hxb⟩ : ∃ v, v = x.b := ⟨_, rfl⟩
              obtain ⟨xv, hxv⟩ : ∃ v, v = x.v := ⟨_, rfl⟩
              obtain ⟨ya, hya⟩ : ∃ v, v = y.a := ⟨_, rfl⟩
              obtain ⟨yb, hyb⟩ : ∃ v, v = y.b := ⟨_, rfl⟩
              obtain ⟨yv, hyv⟩ : ∃ v, v = y.v := ⟨_, rfl⟩
              rw [← hxa] at c0
              rw [← hxb] at c1
              rw [← hxv] at c2
              rw [← hya] at e0
              rw [← hyb] at e1
              rw [← hyv] at e2
              have HE := Lib.hid (And.intro hxa (And.intro hxb (And.intro hxv (And.intro hya (And.intro hyb hyv)))))
              clear hnow hxa hxb hxv hya hyb hyv
              go_wp2_with fail
              go_region
              have R := swap_adj HNW.out HKL.out HE.out
              have HRR := Lib.hid R
              clear R f0 f1 f2 f3 f4 f5 c0 c1 c2 e0 e1 e2
              go_wp2_with fail
              go_roundg Q.length
              case measure => have := HJ.out; have h4 := HQ.out; rw [h4] at this; simp at this; omega
              case rel =>
                have h3 := HIN3.out
                have hQy := HQ.out
                refine ⟨Q, y :: P2, rfl, by rw [HKK.out], ?_, ⟨by simpa using HRR.out, ?_, ?_, ?_⟩⟩
                · have := HPL.out; rw [hQy] at this; simp at this; simp; omega
                · refine List.Perm.trans ?_ h3.perm
                  rw [hQy]
                  simp only [List.append_assoc, List.cons_append, List.nil_append]
                  exact List.Perm.append_left _ (List.Perm.swap _ _ _)
                · have := h3.asc; rw [hQy] at this; simpa using this
                · intro z hz
                  rcases List.mem_cons.1 hz with rfl | hz
                  · exact HCT.out (by first | rfl | trivial)
                  · exact h3.more z hz
    · have hRn := HR.out (by omega)
      have HRN := Lib.hid hRn
      clear hRn
      go_wp2
      go_end0
      refine ⟨rfl, P, ?_, HASC.out, ?_⟩
      · have := HPERM.out; rw [HRN.out] at this; simpa using this
      · have := HNOW.out; rw [HRN.out] at this; simpa using this
end Go.Proofs.Ytkfgmjcdaggjcaa.Kp
