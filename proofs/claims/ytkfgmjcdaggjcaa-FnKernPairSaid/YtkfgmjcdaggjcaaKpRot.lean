/- Ranges exchanged and rotated, walked. -/
import Derived.Test.YtkfgmjcdaggjcaaKpNow
namespace Go.Proofs.Ytkfgmjcdaggjcaa.Kp
open Go Go.RowKit

set_option maxRecDepth 1000000 in
set_option maxHeartbeats 4000000 in
theorem swapr_any (base g n cap a b m : Nat) (P U M V S : List Tri) (w0 w : World) (ha : P.length = a) (hU : U.length = m) (hV : V.length = m) (hb : a + m + M.length = b) (hn60 : n ≤ 60) (h : Now base g n cap (P ++ (U ++ (M ++ (V ++ S)))) w0 w) :
    Calls Try.prog 24 #[.slice (some ⟨g, 0, none⟩) n cap, .int .i64 a, .int .i64 b, .int .i64 m, .func (.func 5) #[] #[]] w fun e w' => e = .returned (.tuple #[]) ∧ Now base g n cap (P ++ (V ++ (M ++ (U ++ S)))) w0 w' := by
  have hlen := h.len
  simp only [List.length_append] at hlen
  have hbm : b + m ≤ n := by omega
  have ham : a + m ≤ b := by omega
  have HA := Lib.hid ha
  have HU := Lib.hid hU
  have HV := Lib.hid hV
  have HB := Lib.hid hb
  have HN0 := Lib.hid h
  clear ha hU hV hb h hlen
  go_enter Try.func24, Try.ntmps24
  go_wp2
  go_loopg [10] (m) (fun gk iv W => ∃ (i : Nat) (U1 U2 V1 V2 : List Tri), i ≤ m ∧ gk = m - i ∧ iv = .int .i64 i ∧ U = U1 ++ U2 ∧ V = V1 ++ V2 ∧ U1.length = i ∧ V1.length = i ∧ Now base g n cap (P ++ (V1 ++ (U2 ++ (M ++ (U1 ++ (V2 ++ S)))))) w0 W)
  case atStart => exact ⟨0, [], U, [], V, Nat.zero_le _, rfl, rfl, rfl, rfl, rfl, rfl, HN0.out⟩
  case round =>
    obtain ⟨i, U1, U2, V1, V2, hi, hgk, rfl, hU, hV, hU1, hV1, hnow⟩ := hrel
    have HK := Lib.hid hgk
    have HNOW := Lib.hid hnow
    clear hgk
    by_cases hlt : i < m
    · obtain ⟨x, U3, hx⟩ : ∃ x U3, U2 = x :: U3 := by
        cases U2 with
        | nil => have := HU.out; rw [hU] at this; simp at this; omega
        | cons x U3 => exact ⟨x, U3, rfl⟩
      obtain ⟨y, V3, hy⟩ : ∃ y V3, V2 = y :: V3 := by
        cases V2 with
        | nil => have := HV.out; rw [hV] at this; simp at this; omega
        | cons y V3 => exact ⟨y, V3, rfl⟩
      have e1 : P ++ (V1 ++ (U2 ++ (M ++ (U1 ++ (V2 ++ S))))) = (P ++ V1) ++ x :: ((U3 ++ (M ++ U1)) ++ y :: (V3 ++ S)) := by rw [hx, hy]; simp
      rw [e1] at hnow
      obtain ⟨p, hp⟩ : ∃ p, p = a + i := ⟨_, rfl⟩
      obtain ⟨q, hq⟩ : ∃ q, q = b + i := ⟨_, rfl⟩
      have hpl : (P ++ V1).length = p := by rw [List.length_append, HA.out, hV1, hp]
      have hql : (P ++ V1).length + 1 + (U3 ++ (M ++ U1)).length = q := by
        have := HU.out
        rw [hU, hx] at this
        simp at this
        have := HB.out
        simp only [List.length_append]
        rw [HA.out]
        omega
      have hox := open_first (P ++ V1) ((U3 ++ (M ++ U1)) ++ y :: (V3 ++ S)) x
      have hoy := open_second (P ++ V1) (U3 ++ (M ++ U1)) (V3 ++ S) x y
      rw [hpl] at hox
      rw [hql] at hoy
      obtain ⟨c0, c1, c2⟩ := hnow.at_ hox
      obtain ⟨e0, e1', e2⟩ := hnow.at_ hoy
      have f0 := hnow.own.frozenAt (p * 3)
      have f1 := hnow.own.frozenAt (p * 3 + 1)
      have f2 := hnow.own.frozenAt (p * 3 + 2)
      have f3 := hnow.own.frozenAt (q * 3)
      have f4 := hnow.own.frozenAt (q * 3 + 1)
      have f5 := hnow.own.frozenAt (q * 3 + 2)
      have hsw := swap_open (P ++ V1) (U3 ++ (M ++ U1)) (V3 ++ S) x y
      rw [hql, hpl] at hsw
      have HSW := Lib.hid hsw
      have HNW := Lib.hid hnow
      have k0 : (a : Int) + i = (p : Int) := by omega
      have k1 : (b : Int) + i = (q : Int) := by omega
      have k2 : IntKind.i64.wrap (p : Int) = p := IntWalk.i64_in _ (by omega)
      have k3 : IntKind.i64.wrap (q : Int) = q := IntWalk.i64_in _ (by omega)
      have k4 : (p : Int) < n := by omega
      have k5 : (q : Int) < n := by omega
      have k6 : p < n := by omega
      have k7 : q < n := by omega
      have HX := Lib.hid (And.intro hx hy)
      have HUV := Lib.hid (And.intro hU (And.intro hV (And.intro hU1 hV1)))
      obtain ⟨xa, hxa⟩ : ∃ v, v = x.a := ⟨_, rfl⟩
      obtain ⟨xb, hxb⟩ : ∃ v, v = x.b := ⟨_, rfl⟩
      obtain ⟨xv, hxv⟩ : ∃ v, v = x.v := ⟨_, rfl⟩
      obtain ⟨ya, hya⟩ : ∃ v, v = y.a := ⟨_, rfl⟩
      obtain ⟨yb, hyb⟩ : ∃ v, v = y.b := ⟨_, rfl⟩
      obtain ⟨yv, hyv⟩ : ∃ v, v = y.v := ⟨_, rfl⟩
      rw [← hxa] at c0
      rw [← hxb] at c1
      rw [← hxv] at c2
      rw [← hya] at e0
      rw [← hyb] at e1'
      rw [← hyv] at e2
      have HE := Lib.hid (And.intro hxa (And.intro hxb (And.intro hxv (And.intro hya (And.intro hyb hyv)))))
      have hpq : p < q := by omega
      clear hnow hU hV hU1 hV1 hx hy e1 hp hq hpl hql hsw hxa hxb hxv hya hyb hyv hox hoy
      go_wp2_with fail
      go_region
      have R := HNW.out.swap (i := p) (j := q) HE.out
      rw [HSW.out] at R
      have HRR := Lib.hid R
      clear R f0 f1 f2 f3 f4 f5 c0 c1 c2 e0 e1' e2
      go_wp2_with fail
      go_roundg (m - (i + 1))
      case measure => have := HK.out; omega
      case rel =>
        obtain ⟨hU, hV, hU1, hV1⟩ := HUV.out
        obtain ⟨hx, hy⟩ := HX.out
        refine ⟨i + 1, U1 ++ [x], U3, V1 ++ [y], V3, by omega, rfl, by go_num, by rw [hU, hx]; simp, by rw [hV, hy]; simp, by simp [hU1], by simp [hV1], ?_⟩
        simpa using HRR.out
    · have hU2 : U2 = [] := by have h1 := HU.out; rw [hU] at h1; simp only [List.length_append] at h1; exact List.eq_nil_of_length_eq_zero (by omega)
      have hV2 : V2 = [] := by have h1 := HV.out; rw [hV] at h1; simp only [List.length_append] at h1; exact List.eq_nil_of_length_eq_zero (by omega)
      have hf : Now base g n cap (P ++ (V ++ (M ++ (U ++ S)))) w0 wr := by
        rw [hU, hV, hU2, hV2]
        rw [hU2, hV2] at hnow
        simpa using hnow
      have HF := Lib.hid hf
      clear hf hnow hU hV hU1 hV1 hU2 hV2
      go_wp2
      go_end0
      exact ⟨rfl, HF.out⟩

set_option maxRecDepth 1000000 in
set_option maxHeartbeats 4000000 in
theorem rot_any (base g n cap a m b : Nat) (P U V S : List Tri) (w0 w : World) (ha : P.length = a) (hU : a + U.length = m) (hV : m + V.length = b) (hU0 : 0 < U.length) (hV0 : 0 < V.length) (hn60 : n ≤ 60) (h : Now base g n cap (P ++ (U ++ (V ++ S))) w0 w) :
    Calls Try.prog 17 #[.slice (some ⟨g, 0, none⟩) n cap, .int .i64 a, .int .i64 m, .int .i64 b, .func (.func 5) #[] #[]] w fun e w' => e = .returned (.tuple #[]) ∧ Now base g n cap (P ++ (V ++ (U ++ S))) w0 w' := by
  have hlen := h.len
  simp only [List.length_append] at hlen
  have hbn : b ≤ n := by omega
  have hmb : m ≤ b := by omega
  have ham : a ≤ m := by omega
  obtain ⟨T, hT⟩ : ∃ T, T = P ++ (V ++ (U ++ S)) := ⟨_, rfl⟩
  rw [← hT]
  obtain ⟨i0, hi0⟩ : ∃ i0, i0 = U.length := ⟨_, rfl⟩
  obtain ⟨j0, hj0⟩ : ∃ j0, j0 = V.length := ⟨_, rfl⟩
  have k0 : (m : Int) - a = (i0 : Int) := by omega
  have k1 : (b : Int) - m = (j0 : Int) := by omega
  have k2 : IntKind.i64.wrap (i0 : Int) = i0 := IntWalk.i64_in _ (by omega)
  have k3 : IntKind.i64.wrap (j0 : Int) = j0 := IntWalk.i64_in _ (by omega)
  have HST : Hid (∃ (P' U' V' S' : List Tri), i0 = U'.length ∧ j0 = V'.length ∧ 0 < U'.length ∧ 0 < V'.length ∧ P'.length + U'.length = m ∧ T = P' ++ (V' ++ (U' ++ S')) ∧ Now base g n cap (P' ++ (U' ++ (V' ++ S'))) w0 w) := Lib.hid ⟨P, U, V, S, hi0, hj0, hU0, hV0, by omega, hT, h⟩
  clear ha hU hV hU0 hV0 h hlen hT hi0 hj0
  go_enter Try.func17, Try.ntmps17
  go_wp2
  clear k0 k1 k2 k3
  go_loopg [10, 11] (i0 + j0) (fun gk iv jv W => ∃ (i j : Nat), gk = i + j ∧ iv = .int .i64 i ∧ jv = .int .i64 j ∧ ∃ (P' U' V' S' : List Tri), i = U'.length ∧ j = V'.length ∧ 0 < U'.length ∧ 0 < V'.length ∧ P'.length + U'.length = m ∧ T = P' ++ (V' ++ (U' ++ S')) ∧ Now base g n cap (P' ++ (U' ++ (V' ++ S'))) w0 W)
  case atStart => exact ⟨i0, j0, rfl, rfl, rfl, HST.out⟩
  case round =>
    obtain ⟨i, j, hgk, rfl, rfl, P', U', V', S', hi, hj, hi0, hj0, hPm, hT, hnow⟩ := hrel
    have HK := Lib.hid hgk
    have hl := hnow.len
    simp only [List.length_append] at hl
    have him : i ≤ m := by omega
    have him2 : i ≤ 60 := by omega
    have hjm2 : j ≤ 60 := by omega
    have hi1 : 0 < i := by omega
    have hj1 : 0 < j := by omega
    obtain ⟨p, hp⟩ : ∃ p, p = m - i := ⟨_, rfl⟩
    have k0 : (m : Int) - i = (p : Int) := by omega
    have k1 : IntKind.i64.wrap (p : Int) = p := IntWalk.i64_in _ (by omega)
    by_cases hij : i = j
    · have hC := Lib.hid (swapr_any base g n cap p m i P' U' [] V' S' w0 wr (by omega) hi.symm (by omega) (by simp; omega) hn60 hnow)
      have HT := Lib.hid hT
      have hne : ((i : Int) == j) = true := by rw [hij]; simp
      subst hij
      clear hgk hi hj hi0 hj0 hPm hT hnow hl hp
      go_wp2_with fail
      refine hC.out.mono ?_
      rintro e w1 ⟨rfl, hn1⟩
      have HN1 := Lib.hid hn1
      clear hn1
      go_wp2
      go_end0
      exact ⟨rfl, by rw [HT.out]; simpa using HN1.out⟩
    · have hne : ((i : Int) == j) = false := by rw [beq_eq_false_iff_ne]; omega
      have hne2 : ((i : Int) != j) = true := by rw [bne_iff_ne]; omega
      by_cases hlt : j < i
      · have hd : decide ((j : Int) < i) = true := decide_eq_true (by omega)
        obtain ⟨U1, U2, hU⟩ : ∃ U1 U2, U' = U1 ++ U2 ∧ U1.length = j := ⟨U'.take j, U'.drop j, (List.take_append_drop j U').symm, by rw [List.length_take]; omega⟩
        obtain ⟨hU, hU1⟩ := hU
        have hU2 : U2.length = i - j := by rw [hi, hU, List.length_append]; omega
        have hnow2 : Now base g n cap (P' ++ (U1 ++ (U2 ++ (V' ++ S')))) w0 wr := by rw [hU] at hnow; simpa using hnow
        have hC := Lib.hid (swapr_any base g n cap p m j P' U1 U2 V' S' w0 wr (by omega) hU1 hj.symm (by omega) hn60 hnow2)
        have HT := Lib.hid (And.intro hT (And.intro hU (And.intro hU1 (And.intro hU2 (And.intro hPm (And.intro hi (And.intro hj hj0)))))))
        have k2 : IntKind.i64.wrap ((i : Int) - j) = ((i - j : Nat) : Int) := (IntWalk.i64_in _ (by omega)).trans (by omega)
        clear hgk hi hj hi0 hj0 hPm hT hnow hl hp hU hU1 hU2 hnow2 hij
        go_wp2_with fail
        refine hC.out.mono ?_
        rintro e w1 ⟨rfl, hn1⟩
        have HN1 := Lib.hid hn1
        clear hn1
        go_wp2
        go_roundg (i - j + j)
        case measure => have := HK.out; omega
        case rel =>
          obtain ⟨hT, hU, hU1, hU2, hPm, hi, hj, hj0⟩ := HT.out
          refine ⟨i - j, j, rfl, by first | rfl | (congr 1; omega), rfl, P' ++ V', U2, U1, S', hU2.symm, hU1.symm, by omega, by omega, ?_, ?_, ?_⟩
          · rw [List.length_append]; rw [hi, hU, List.length_append] at *; omega
          · rw [hT, hU]; simp
          · simpa using HN1.out
      · have hd : decide ((j : Int) < i) = false := decide_eq_false (by omega)
        have hji : i < j := by omega
        obtain ⟨V1, V2, hV⟩ : ∃ V1 V2, V' = V1 ++ V2 ∧ V2.length = i := ⟨V'.take (j - i), V'.drop (j - i), (List.take_append_drop (j - i) V').symm, by rw [List.length_drop]; omega⟩
        obtain ⟨hV, hV2⟩ := hV
        have hV1 : V1.length = j - i := by rw [hj, hV, List.length_append]; omega
        have hnow2 : Now base g n cap (P' ++ (U' ++ (V1 ++ (V2 ++ S')))) w0 wr := by rw [hV] at hnow; simpa using hnow
        obtain ⟨q, hq⟩ : ∃ q, q = m + j - i := ⟨_, rfl⟩
        have hC := Lib.hid (swapr_any base g n cap p q i P' U' V1 V2 S' w0 wr (by omega) hi.symm hV2 (by omega) hn60 hnow2)
        have HT := Lib.hid (And.intro hT (And.intro hV (And.intro hV1 (And.intro hV2 (And.intro hPm (And.intro hi (And.intro hj hi0)))))))
        have k2 : IntKind.i64.wrap ((j : Int) - i) = ((j - i : Nat) : Int) := (IntWalk.i64_in _ (by omega)).trans (by omega)
        have k3 : (m : Int) + j - i = (q : Int) := by omega
        have k4 : IntKind.i64.wrap (q : Int) = q := IntWalk.i64_in _ (by omega)
        have k5 : IntKind.i64.wrap ((m : Int) + j) = (m : Int) + j := IntWalk.i64_in _ (by omega)
        clear hgk hi hj hi0 hj0 hPm hT hnow hl hp hV hV1 hV2 hnow2 hij hq
        go_wp2_with fail
        refine hC.out.mono ?_
        rintro e w1 ⟨rfl, hn1⟩
        have HN1 := Lib.hid hn1
        clear hn1
        go_wp2
        go_roundg (i + (j - i))
        case measure => have := HK.out; omega
        case rel =>
          obtain ⟨hT, hV, hV1, hV2, hPm, hi, hj, hi0⟩ := HT.out
          refine ⟨i, j - i, rfl, rfl, by first | rfl | (congr 1; omega), P', V2, V1, U' ++ S', hV2.symm, hV1.symm, by omega, by omega, by omega, ?_, ?_⟩
          · rw [hT, hV]; simp
          · simpa using HN1.out
end Go.Proofs.Ytkfgmjcdaggjcaa.Kp
