/- A merge of one element into a row that is sorted, walked. -/
import Derived.Test.YtkfgmjcdaggjcaaKpIns
import Derived.Test.YtkfgmjcdaggjcaaKpRot
namespace Go.Proofs.Ytkfgmjcdaggjcaa.Kp
open Go Go.RowKit

theorem asc_put {Y : List Tri} {x : Tri} {i : Nat} (h : Asc Tri.key Y) (h1 : i = 0 ∨ ∃ y, Y[i - 1]? = some y ∧ y.key ≤ x.key) (h2 : Y.length ≤ i ∨ ∃ y, Y[i]? = some y ∧ x.key ≤ y.key) : Asc Tri.key (Y.take i ++ x :: Y.drop i) := by
  have hs := asc_split Tri.key (X := [x]) (Y := Y) (i := 0) (j := i) (List.pairwise_singleton _ _) h (Or.inl rfl) (by
    rcases h1 with h1 | ⟨y, hy, hk⟩
    · exact Or.inr (Or.inl h1)
    · exact Or.inr (Or.inr ⟨x, y, rfl, hy, hk⟩))
  have hs2 := asc_split Tri.key (X := [x]) (Y := Y) (i := 1) (j := i) (List.pairwise_singleton _ _) h (by
    rcases h2 with h2 | ⟨y, hy, hk⟩
    · exact Or.inr (Or.inl h2)
    · exact Or.inr (Or.inr ⟨x, y, rfl, hy, hk⟩)) (Or.inl (by simp))
  have e : Asc Tri.key (Y.take i ++ Y.drop i) := by rw [List.take_append_drop]; exact h
  refine List.pairwise_append.2 ⟨asc_left _ e, List.pairwise_cons.2 ⟨fun y hy => hs2.1 x (by simp) y hy, asc_right _ e⟩, fun y hy z hz => ?_⟩
  rcases List.mem_cons.1 hz with rfl | hz
  · exact hs.2 z (by simp) y hy
  · exact (List.pairwise_append.1 e).2.2 y hy z hz

set_option maxRecDepth 1000000 in
set_option maxHeartbeats 4000000 in
theorem sym_one (base g n cap a m b : Nat) (A Y B : List Tri) (x : Tri) (w0 w : World) (ha : A.length = a) (hm : a + 1 = m) (hb : m + Y.length = b) (hn60 : n ≤ 60) (hx : x.Ok) (hok : ∀ y ∈ Y, Tri.Ok y) (hY : Asc Tri.key Y) (h : Now base g n cap (A ++ x :: (Y ++ B)) w0 w) :
    Calls Try.prog 14 #[.slice (some ⟨g, 0, none⟩) n cap, .int .i64 a, .int .i64 m, .int .i64 b, .func (.func 5) #[] #[]] w fun e w' => e = .returned (.tuple #[]) ∧ ∃ Z, Z.Perm (x :: Y) ∧ Asc Tri.key Z ∧ Now base g n cap (A ++ (Z ++ B)) w0 w' := by
  have hlen := h.len
  simp only [List.length_append, List.length_cons] at hlen
  have hbn : b ≤ n := by omega
  have HA := Lib.hid ha
  have HM := Lib.hid hm
  have HB := Lib.hid hb
  have HX := Lib.hid hx
  have HOK := Lib.hid hok
  have HY := Lib.hid hY
  have HN0 := Lib.hid h
  have k0 : (m : Int) - a = 1 := by omega
  have hma : a < m := by omega
  have hmb : m ≤ b := by omega
  clear ha hm hb hx hok hY h hlen
  go_enter Try.func14, Try.ntmps14
  go_wp2_with fail
  go_loopg [10, 11] (b - m) (fun gk iv jv W => ∃ (i j : Nat), gk = j - i ∧ iv = .int .i64 i ∧ jv = .int .i64 j ∧ m ≤ i ∧ i ≤ j ∧ j ≤ b ∧ (i = m ∨ ∃ y, Y[i - m - 1]? = some y ∧ y.key ≤ x.key) ∧ (j = b ∨ ∃ y, Y[j - m]? = some y ∧ x.key ≤ y.key) ∧ Now base g n cap (A ++ x :: (Y ++ B)) w0 W)
  case atStart => exact ⟨m, b, rfl, rfl, rfl, Nat.le_refl _, hmb, Nat.le_refl _, Or.inl rfl, Or.inl rfl, HN0.out⟩
  case round =>
    obtain ⟨i, j, hgk, rfl, rfl, hmi, hij, hjb, hi, hj, hnow⟩ := hrel
    have HK := Lib.hid hgk
    have HI := Lib.hid hi
    have HJ := Lib.hid hj
    have HNOW := Lib.hid hnow
    clear hgk hi hj hnow
    by_cases hlt : i < j
    · obtain ⟨p, hp⟩ : ∃ p, p = (i + j) / 2 := ⟨_, rfl⟩
      have hip : i ≤ p := by omega
      have hpj : p < j := by omega
      have k1 : ((i : Int) + j) / 2 = (p : Int) := by omega
      have hl := HB.out
      obtain ⟨y, hy⟩ : ∃ y, Y[p - m]? = some y := ⟨_, List.getElem?_eq_getElem (by omega)⟩
      have hD : (A ++ x :: (Y ++ B))[p]? = some y := by
        have e : A ++ x :: (Y ++ B) = (A ++ [x]) ++ (Y ++ B) := by simp
        have hl1 : (A ++ [x]).length = m := by have := HA.out; have := HM.out; simp; omega
        rw [e, List.getElem?_append_right (by omega), hl1, List.getElem?_append_left (by omega)]
        exact hy
      have hDx : (A ++ x :: (Y ++ B))[a]? = some x := by rw [← HA.out]; exact open_first _ _ _
      obtain ⟨c0, c1, c2⟩ := HNOW.out.at_ hDx
      obtain ⟨e0, e1, e2⟩ := HNOW.out.at_ hD
      have hC := Lib.hid (fun W => cmp_any y x (HOK.out y (List.mem_of_getElem? hy)) HX.out W)
      have HYP := Lib.hid hy
      have k2 : (p : Int) < n := by omega
      have k3 : p < n := by omega
      have k4 : (a : Int) < n := by omega
      have k5 : a < n := by omega
      have k6 : IntKind.u64.wrap ((i : Int) + j) = (i : Int) + j := by simp [IntKind.wrap, IntKind.bits, IntKind.signed]; omega
      clear hl hy hD hDx hp
      go_upto_region 5 with fail
      go_cut [50] (fun cv W => ∃ c : Bool, cv = .bool c ∧ (c = true → y.key < x.key) ∧ (c = false → x.key ≤ y.key) ∧ Now base g n cap (A ++ x :: (Y ++ B)) w0 W)
      case first =>
        generalize x.a = xa at c0 hC
        generalize x.b = xb at c1 hC
        generalize x.v = xv at c2 hC
        generalize y.a = ya at e0 hC
        generalize y.b = yb at e1 hC
        generalize y.v = yv at e2 hC
        go_still_tail 9, (by kernel_rfl)
        go_wp2_with fail
        refine (hC.out _).mono ?_
        rintro e w3 ⟨⟨v, rfl, hv⟩, hb⟩
        have HB3 := Lib.hid ((Below.refl _ wr).drew.trans hb)
        have HV := Lib.hid hv
        clear hb hv
        go_wp2_with fail
        go_meet
        case rel =>
          refine ⟨_, rfl, fun h => ?_, fun h => ?_, HNOW.out.later HB3.out⟩
          · simp at h; exact HV.out.1 h
          · simp at h
            have h5 := HV.out
            omega
      case rest =>
        obtain ⟨c, rfl, hct, hcf, hnow3⟩ := hcut
        obtain ⟨wb, rfl⟩ : ∃ wb : World, wb = wc := ⟨_, rfl⟩
        have HNOW3 := Lib.hid hnow3
        have HCT := Lib.hid hct
        have HCF := Lib.hid hcf
        clear hnow3 hct hcf c0 c1 c2 e0 e1 e2
        cases c with
        | false =>
          go_wp2_with fail
          go_roundg (p - i)
          case measure => have := HK.out; omega
          case rel => exact ⟨i, p, rfl, rfl, rfl, hmi, hip, by omega, HI.out, Or.inr ⟨y, HYP.out, HCF.out (by first | rfl | trivial)⟩, HNOW3.out⟩
        | true =>
          go_wp2_with fail
          go_roundg (j - (p + 1))
          case measure => have := HK.out; omega
          case rel => exact ⟨p + 1, j, rfl, by go_num, rfl, by omega, by omega, hjb, Or.inr ⟨y, by rw [show p + 1 - m - 1 = p - m by omega]; exact HYP.out, Nat.le_of_lt (HCT.out (by first | rfl | trivial))⟩, HJ.out, HNOW3.out⟩
    · have hij2 : i = j := by omega
      have h1 := HI.out
      have h2 := HJ.out
      have hasc := asc_put (i := i - m) HY.out (by rcases h1 with h1 | h1; exact Or.inl (by omega); exact Or.inr h1) (by have := HB.out; rcases h2 with h2 | h2; exact Or.inl (by omega); exact Or.inr (by rw [hij2]; exact h2))
      have HASC := Lib.hid hasc
      obtain ⟨e, he⟩ : ∃ e, e = i - 1 := ⟨_, rfl⟩
      have k1 : (i : Int) - 1 = (e : Int) := by omega
      have k2 : IntKind.i64.wrap (e : Int) = e := IntWalk.i64_in _ (by omega)
      have hae : a ≤ e := by omega
      have hen : e < n := by omega
      have HE := Lib.hid (And.intro he hij2)
      clear h1 h2 hasc hij2 he
      go_wp2_with fail
      go_loopg [13] (e - a) (fun gk kv W => ∃ (k : Nat) (Y1 Y2 : List Tri), gk = e - k ∧ kv = .int .i64 k ∧ a ≤ k ∧ k ≤ e ∧ Y = Y1 ++ Y2 ∧ Y1.length = k - a ∧ Now base g n cap (A ++ (Y1 ++ x :: (Y2 ++ B))) w0 W)
      case atStart => exact ⟨a, [], Y, rfl, rfl, Nat.le_refl _, hae, rfl, by simp, HNOW.out⟩
      case round =>
        obtain ⟨k, Y1, Y2, hgk, rfl, hak, hke, hYY, hY1, hnow⟩ := hrel
        have HK2 := Lib.hid hgk
        have HN2 := Lib.hid hnow
        by_cases hlt2 : k < e
        · obtain ⟨y, Y3, hy⟩ : ∃ y Y3, Y2 = y :: Y3 := by
            cases Y2 with
            | nil => have h3 := congrArg List.length hYY; simp at h3; have := HB.out; have := HE.out; omega
            | cons y Y3 => exact ⟨y, Y3, rfl⟩
          have e1 : A ++ (Y1 ++ x :: (Y2 ++ B)) = (A ++ Y1) ++ x :: y :: (Y3 ++ B) := by rw [hy]; simp
          rw [e1] at hnow
          have hkl : (A ++ Y1).length = k := by rw [List.length_append, HA.out, hY1]; omega
          have hx0 : ((A ++ Y1) ++ x :: y :: (Y3 ++ B))[k]? = some x := by rw [← hkl]; exact open_first _ _ _
          have hy0 : ((A ++ Y1) ++ x :: y :: (Y3 ++ B))[k + 1]? = some y := by rw [← hkl]; exact open_second _ [] _ _ _
          obtain ⟨c0, c1, c2⟩ := hnow.at_ hx0
          obtain ⟨e0, e1', e2⟩ := hnow.at_ hy0
          have f0 := hnow.own.frozenAt (k * 3)
          have f1 := hnow.own.frozenAt (k * 3 + 1)
          have f2 := hnow.own.frozenAt (k * 3 + 2)
          have f3 := hnow.own.frozenAt ((k + 1) * 3)
          have f4 := hnow.own.frozenAt ((k + 1) * 3 + 1)
          have f5 := hnow.own.frozenAt ((k + 1) * 3 + 2)
          have HNW := Lib.hid hnow
          have hsw := swap_open (A ++ Y1) [] (Y3 ++ B) x y
          simp only [List.length_nil, Nat.add_zero, List.nil_append] at hsw
          rw [hkl] at hsw
          have HSW := Lib.hid hsw
          have HYS := Lib.hid (And.intro hYY (And.intro hY1 hy))
          have hk3 : 0 ≤ (k : Int) + 1 := by omega
          have hk4 : (k : Int) + 1 < n := by omega
          have hk5 : (k : Int) < n := by omega
          have hk1 : k + 1 < n := by omega
          have hk2 : k < n := by omega
          obtain ⟨xa, hxa⟩ : ∃ v, v = x.a := ⟨_, rfl⟩
          obtain ⟨xb, hxb⟩ : ∃ v, v = x.b := ⟨_, rfl⟩
          obtain ⟨xv, hxv⟩ : ∃ v, v = x.v := ⟨_, rfl⟩
          obtain ⟨ya, hya⟩ : ∃ v, v = y.a := ⟨_, rfl⟩
          obtain ⟨yb, hyb⟩ : ∃ v, v = y.b := ⟨_, rfl⟩
          obtain ⟨yv, hyv⟩ : ∃ v, v = y.v := ⟨_, rfl⟩
          rw [← hxa] at c0
          rw [← hxb] at c1
          rw [← hxv] at c2
          rw [← hya] at e0
          rw [← hyb] at e1'
          rw [← hyv] at e2
          have HEE := Lib.hid (And.intro hxa (And.intro hxb (And.intro hxv (And.intro hya (And.intro hyb hyv)))))
          clear hnow e1 hkl hx0 hy0 hsw hYY hY1 hy hxa hxb hxv hya hyb hyv hgk
          go_wp2_with fail
          go_region
          have R := HNW.out.swap (i := k) (j := k + 1) HEE.out
          rw [HSW.out] at R
          have HRR := Lib.hid R
          clear R f0 f1 f2 f3 f4 f5 c0 c1 c2 e0 e1' e2
          go_wp2_with fail
          go_roundg (e - (k + 1))
          case measure => have := HK2.out; omega
          case rel =>
            obtain ⟨hYY, hY1, hy⟩ := HYS.out
            exact ⟨k + 1, Y1 ++ [y], Y3, rfl, by go_num, by omega, by omega, by rw [hYY, hy]; simp, by simp [hY1]; omega, by simpa using HRR.out⟩
        · have hke2 : k = e := by omega
          have HF := Lib.hid (And.intro hYY (And.intro hY1 hke2))
          clear hnow hYY hY1 hke2 hgk
          go_wp2_with fail
          (try simp only [Exit.inBlock, Exit.then])
          refine bodyPost_ret (results_none rfl _ _ _) rfl ?_
          obtain ⟨hYY, hY1, hke2⟩ := HF.out
          have hlen1 : Y1.length = i - m := by have := HM.out; have := HE.out.1; omega
          have ht : Y.take (i - m) = Y1 := by rw [hYY, ← hlen1]; exact List.take_left
          have hd : Y.drop (i - m) = Y2 := by rw [hYY, ← hlen1]; exact List.drop_left
          have ha2 := HASC.out
          rw [ht, hd] at ha2
          refine ⟨rfl, Y1 ++ x :: Y2, ?_, ha2, by simpa using HN2.out⟩
          rw [hYY]
          exact List.perm_middle
end Go.Proofs.Ytkfgmjcdaggjcaa.Kp
