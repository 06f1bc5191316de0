/- A merge of a sorted row and one element behind it, walked. -/
import Derived.Test.YtkfgmjcdaggjcaaKpOne
namespace Go.Proofs.Ytkfgmjcdaggjcaa.Kp
open Go Go.RowKit

set_option maxRecDepth 1000000 in
set_option maxHeartbeats 4000000 in
theorem sym_last (base g n cap a m b : Nat) (A X B : List Tri) (y : Tri) (w0 w : World) (ha : A.length = a) (hm : a + X.length = m) (hb : m + 1 = b) (hX1 : X.length ≠ 1) (hn60 : n ≤ 60) (hy : y.Ok) (hok : ∀ x ∈ X, Tri.Ok x) (hX : Asc Tri.key X) (h : Now base g n cap (A ++ (X ++ y :: B)) w0 w) :
    Calls Try.prog 14 #[.slice (some ⟨g, 0, none⟩) n cap, .int .i64 a, .int .i64 m, .int .i64 b, .func (.func 5) #[] #[]] w fun e w' => e = .returned (.tuple #[]) ∧ ∃ Z, Z.Perm (X ++ [y]) ∧ Asc Tri.key Z ∧ Now base g n cap (A ++ (Z ++ B)) w0 w' := by
  have hlen := h.len
  simp only [List.length_append, List.length_cons] at hlen
  have hbn : b ≤ n := by omega
  have HA := Lib.hid ha
  have HM := Lib.hid hm
  have HB := Lib.hid hb
  have HYK := Lib.hid hy
  have HOK := Lib.hid hok
  have HX := Lib.hid hX
  have HN0 := Lib.hid h
  obtain ⟨xl, hxl⟩ : ∃ xl, xl = X.length := ⟨_, rfl⟩
  have k0 : (m : Int) - a = (xl : Int) := by omega
  have k00 : IntKind.i64.wrap (xl : Int) = xl := IntWalk.i64_in _ (by omega)
  have k01 : ((xl : Int) == 1) = false := by rw [beq_eq_false_iff_ne]; omega
  have k02 : (b : Int) - m = 1 := by omega
  have k03 : ¬ (xl : Int) = 1 := by omega
  have ham : a ≤ m := by omega
  have hmb : m < b := by omega
  have hmn : m < n := by omega
  clear ha hm hb hy hok hX h hlen hxl hX1
  go_enter Try.func14, Try.ntmps14
  go_wp2_with fail
  go_loopg [14, 15] (m - a) (fun gk iv jv W => ∃ (i j : Nat), gk = j - i ∧ iv = .int .i64 i ∧ jv = .int .i64 j ∧ a ≤ i ∧ i ≤ j ∧ j ≤ m ∧ (i = a ∨ ∃ x, X[i - a - 1]? = some x ∧ x.key ≤ y.key) ∧ (j = m ∨ ∃ x, X[j - a]? = some x ∧ y.key ≤ x.key) ∧ Now base g n cap (A ++ (X ++ y :: B)) w0 W)
  case atStart => exact ⟨a, m, rfl, rfl, rfl, Nat.le_refl _, ham, Nat.le_refl _, Or.inl rfl, Or.inl rfl, HN0.out⟩
  case round =>
    obtain ⟨i, j, hgk, rfl, rfl, hai, hij, hjm, hi, hj, hnow⟩ := hrel
    have HK := Lib.hid hgk
    have HI := Lib.hid hi
    have HJ := Lib.hid hj
    have HNOW := Lib.hid hnow
    clear hgk hi hj hnow
    by_cases hlt : i < j
    · obtain ⟨p, hp⟩ : ∃ p, p = (i + j) / 2 := ⟨_, rfl⟩
      have hip : i ≤ p := by omega
      have hpj : p < j := by omega
      have k1 : ((i : Int) + j) / 2 = (p : Int) := by omega
      have hl := HM.out
      obtain ⟨x, hx⟩ : ∃ x, X[p - a]? = some x := ⟨_, List.getElem?_eq_getElem (by omega)⟩
      have hD : (A ++ (X ++ y :: B))[p]? = some x := by
        rw [List.getElem?_append_right (by have := HA.out; omega), HA.out, List.getElem?_append_left (by omega)]
        exact hx
      have hDy : (A ++ (X ++ y :: B))[m]? = some y := by
        have e : A ++ (X ++ y :: B) = (A ++ X) ++ y :: B := by simp
        have hl1 : (A ++ X).length = m := by rw [List.length_append, HA.out, HM.out]
        rw [e, ← hl1]
        exact open_first _ _ _
      obtain ⟨c0, c1, c2⟩ := HNOW.out.at_ hDy
      obtain ⟨e0, e1, e2⟩ := HNOW.out.at_ hD
      have hC := Lib.hid (fun W => cmp_any y x HYK.out (HOK.out x (List.mem_of_getElem? hx)) W)
      have HXP := Lib.hid hx
      have k2 : (p : Int) < n := by omega
      have k3 : p < n := by omega
      have k4 : (m : Int) < n := by omega
      have k6 : IntKind.u64.wrap ((i : Int) + j) = (i : Int) + j := by simp [IntKind.wrap, IntKind.bits, IntKind.signed]; omega
      clear hl hx hD hDy hp
      go_upto_region 17 with fail
      go_cut [103] (fun cv W => ∃ c : Bool, cv = .bool c ∧ (c = true → x.key ≤ y.key) ∧ (c = false → y.key < x.key) ∧ Now base g n cap (A ++ (X ++ y :: B)) w0 W)
      case first =>
        generalize x.a = xa at e0 hC
        generalize x.b = xb at e1 hC
        generalize x.v = xv at e2 hC
        generalize y.a = ya at c0 hC
        generalize y.b = yb at c1 hC
        generalize y.v = yv at c2 hC
        go_still_tail 9, (by kernel_rfl)
        go_wp2_with fail
        refine (hC.out _).mono ?_
        rintro e w3 ⟨⟨v, rfl, hv⟩, hb⟩
        have HB3 := Lib.hid ((Below.refl _ wr).drew.trans hb)
        have HV := Lib.hid hv
        clear hb hv
        go_wp2_with fail
        go_meet
        case rel =>
          refine ⟨_, rfl, fun h => ?_, fun h => ?_, HNOW.out.later HB3.out⟩
          · simp at h
            have h5 := HV.out
            omega
          · simp at h
            have h5 := HV.out
            omega
      case rest =>
        obtain ⟨c, rfl, hct, hcf, hnow3⟩ := hcut
        obtain ⟨wb, rfl⟩ : ∃ wb : World, wb = wc := ⟨_, rfl⟩
        have HNOW3 := Lib.hid hnow3
        have HCT := Lib.hid hct
        have HCF := Lib.hid hcf
        clear hnow3 hct hcf c0 c1 c2 e0 e1 e2
        cases c with
        | false =>
          go_wp2_with fail
          go_roundg (p - i)
          case measure => have := HK.out; omega
          case rel => exact ⟨i, p, rfl, rfl, rfl, hai, hip, by omega, HI.out, Or.inr ⟨x, HXP.out, Nat.le_of_lt (HCF.out (by first | rfl | trivial))⟩, HNOW3.out⟩
        | true =>
          go_wp2_with fail
          go_roundg (j - (p + 1))
          case measure => have := HK.out; omega
          case rel => exact ⟨p + 1, j, rfl, by go_num, rfl, by omega, by omega, hjm, Or.inr ⟨x, by rw [show p + 1 - a - 1 = p - a by omega]; exact HXP.out, HCT.out (by first | rfl | trivial)⟩, HJ.out, HNOW3.out⟩
    · have hij2 : i = j := by omega
      have h1 := HI.out
      have h2 := HJ.out
      have hasc := asc_put (i := i - a) (x := y) HX.out (by rcases h1 with h1 | h1; exact Or.inl (by omega); exact Or.inr h1) (by have := HM.out; rcases h2 with h2 | h2; exact Or.inl (by omega); exact Or.inr (by rw [hij2]; exact h2))
      have HASC := Lib.hid hasc
      have him : i ≤ m := by omega
      clear h1 h2 hasc
      have HIJ := Lib.hid hij2
      clear hij2
      go_wp2_with fail
      go_loopg [17] (m - i) (fun gk kv W => ∃ (k : Nat) (X1 X2 : List Tri), gk = k - i ∧ kv = .int .i64 k ∧ i ≤ k ∧ k ≤ m ∧ X = X1 ++ X2 ∧ X1.length = k - a ∧ Now base g n cap (A ++ (X1 ++ y :: (X2 ++ B))) w0 W)
      case atStart => exact ⟨m, X, [], rfl, rfl, him, Nat.le_refl _, by simp, by have := HM.out; omega, HNOW.out⟩
      case round =>
        obtain ⟨k', X1, X2, hgk, rfl, hik, hkm, hXX, hX1, hnow⟩ := hrel
        have HK2 := Lib.hid hgk
        have HN2 := Lib.hid hnow
        by_cases hlt2 : i < k'
        · obtain ⟨k, rfl⟩ : ∃ k, k' = k + 1 := ⟨k' - 1, by omega⟩
          obtain ⟨Q, x, hx⟩ : ∃ Q x, X1 = Q ++ [x] := by
            rcases List.eq_nil_or_concat X1 with h3 | ⟨Q, x, h3⟩
            · rw [h3] at hX1; simp at hX1; omega
            · exact ⟨Q, x, by rw [h3, List.concat_eq_append]⟩
          have e1 : A ++ (X1 ++ y :: (X2 ++ B)) = (A ++ Q) ++ x :: y :: (X2 ++ B) := by rw [hx]; simp
          rw [e1] at hnow
          have hkl : (A ++ Q).length = k := by rw [hx] at hX1; simp at hX1; rw [List.length_append, HA.out]; omega
          have hx0 : ((A ++ Q) ++ x :: y :: (X2 ++ B))[k]? = some x := by rw [← hkl]; exact open_first _ _ _
          have hy0 : ((A ++ Q) ++ x :: y :: (X2 ++ B))[k + 1]? = some y := by rw [← hkl]; exact open_second _ [] _ _ _
          obtain ⟨c0, c1, c2⟩ := hnow.at_ hy0
          obtain ⟨e0, e1', e2⟩ := hnow.at_ hx0
          have f0 := hnow.own.frozenAt (k * 3)
          have f1 := hnow.own.frozenAt (k * 3 + 1)
          have f2 := hnow.own.frozenAt (k * 3 + 2)
          have f3 := hnow.own.frozenAt ((k + 1) * 3)
          have f4 := hnow.own.frozenAt ((k + 1) * 3 + 1)
          have f5 := hnow.own.frozenAt ((k + 1) * 3 + 2)
          have HNW := Lib.hid hnow
          have HKL := Lib.hid hkl
          have HXS := Lib.hid (And.intro hXX (And.intro hX1 hx))
          have hk3 : 0 ≤ (k : Int) + 1 := by omega
          have hk4 : (k : Int) + 1 < n := by omega
          have hk5 : (k : Int) < n := by omega
          have hk6 : IntKind.i64.wrap (k : Int) = k := IntWalk.i64_in _ (by omega)
          have hk1 : k + 1 < n := by omega
          have hk2 : k < n := by omega
          have hk7 : (i : Int) < (k : Int) + 1 := by omega
          have hk8 : decide ((i : Int) < (k : Int) + 1) = true := decide_eq_true hk7
          obtain ⟨xa, hxa⟩ : ∃ v, v = y.a := ⟨_, rfl⟩
          obtain ⟨xb, hxb⟩ : ∃ v, v = y.b := ⟨_, rfl⟩
          obtain ⟨xv, hxv⟩ : ∃ v, v = y.v := ⟨_, rfl⟩
          obtain ⟨ya, hya⟩ : ∃ v, v = x.a := ⟨_, rfl⟩
          obtain ⟨yb, hyb⟩ : ∃ v, v = x.b := ⟨_, rfl⟩
          obtain ⟨yv, hyv⟩ : ∃ v, v = x.v := ⟨_, rfl⟩
          rw [← hxa] at c0
          rw [← hxb] at c1
          rw [← hxv] at c2
          rw [← hya] at e0
          rw [← hyb] at e1'
          rw [← hyv] at e2
          have HEE := Lib.hid (And.intro hxa (And.intro hxb (And.intro hxv (And.intro hya (And.intro hyb hyv)))))
          clear hnow e1 hkl hx0 hy0 hXX hX1 hx hxa hxb hxv hya hyb hyv hgk
          rw [show ((k + 1 : Nat) : Int) = (k : Int) + 1 by omega]
          go_wp2_with fail
          go_region
          have R := swap_adj HNW.out HKL.out HEE.out
          have HRR := Lib.hid R
          clear R f0 f1 f2 f3 f4 f5 c0 c1 c2 e0 e1' e2
          go_wp2_with fail
          go_roundg (k - i)
          case measure => have := HK2.out; omega
          case rel =>
            obtain ⟨hXX, hX1, hx⟩ := HXS.out
            refine ⟨k, Q, x :: X2, rfl, rfl, by omega, by omega, by rw [hXX, hx]; simp, ?_, by simpa using HRR.out⟩
            have := hX1
            rw [hx] at this
            simp at this
            omega
        · have hki : k' = i := by omega
          have HF := Lib.hid (And.intro hXX (And.intro hX1 hki))
          clear hnow hXX hX1 hki hgk
          go_wp2_with fail
          (try simp only [Exit.inBlock, Exit.then])
          refine bodyPost_ret (results_none rfl _ _ _) rfl ?_
          obtain ⟨hXX, hX1, hki⟩ := HF.out
          have hlen1 : X1.length = i - a := by omega
          have ht : X.take (i - a) = X1 := by rw [hXX, ← hlen1]; exact List.take_left
          have hd : X.drop (i - a) = X2 := by rw [hXX, ← hlen1]; exact List.drop_left
          have ha2 := HASC.out
          rw [ht, hd] at ha2
          refine ⟨rfl, X1 ++ y :: X2, ?_, ha2, by simpa using HN2.out⟩
          rw [hXX]
          exact List.perm_middle.trans (List.perm_append_comm (l₁ := [y]))
end Go.Proofs.Ytkfgmjcdaggjcaa.Kp
