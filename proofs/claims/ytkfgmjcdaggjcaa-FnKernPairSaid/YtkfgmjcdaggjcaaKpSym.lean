/- Two sorted parts of the row merged in place, walked. -/
import Derived.Test.YtkfgmjcdaggjcaaKpLast
namespace Go.Proofs.Ytkfgmjcdaggjcaa.Kp
open Go Go.RowKit

def Merges (base g n cap a m b : Nat) (A X Y B : List Tri) (w0 w : World) : Prop :=
  Calls Try.prog 14 #[.slice (some ⟨g, 0, none⟩) n cap, .int .i64 a, .int .i64 m, .int .i64 b, .func (.func 5) #[] #[]] w fun e w' => e = .returned (.tuple #[]) ∧ ∃ Z, Z.Perm (X ++ Y) ∧ Asc Tri.key Z ∧ Now base g n cap (A ++ (Z ++ B)) w0 w'

set_option maxRecDepth 1000000 in
set_option maxHeartbeats 8000000 in
theorem sym_step (base g n cap a m b : Nat) (A X Y B : List Tri) (w0 w : World) (hn60 : n ≤ 60)
    (ih : ∀ (a' m' b' : Nat) (A' X' Y' B' : List Tri) (W : World), b' - a' < b - a → A'.length = a' → a' + X'.length = m' → m' + Y'.length = b' → X' ≠ [] → Y' ≠ [] → (∀ x ∈ X', Tri.Ok x) → (∀ x ∈ Y', Tri.Ok x) → Asc Tri.key X' → Asc Tri.key Y' → Now base g n cap (A' ++ (X' ++ (Y' ++ B'))) w0 W → Merges base g n cap a' m' b' A' X' Y' B' w0 W)
    (ha : A.length = a) (hm : a + X.length = m) (hb : m + Y.length = b) (hX2 : 2 ≤ X.length) (hY2 : 2 ≤ Y.length) (hokX : ∀ x ∈ X, Tri.Ok x) (hokY : ∀ x ∈ Y, Tri.Ok x) (hX : Asc Tri.key X) (hY : Asc Tri.key Y) (h : Now base g n cap (A ++ (X ++ (Y ++ B))) w0 w) :
    Merges base g n cap a m b A X Y B w0 w := by
  have hlen := h.len
  simp only [List.length_append] at hlen
  have hbn : b ≤ n := by omega
  have IH := Lib.hid ih
  have HA := Lib.hid ha
  have HM := Lib.hid hm
  have HB := Lib.hid hb
  have HOKX := Lib.hid hokX
  have HOKY := Lib.hid hokY
  have HX := Lib.hid hX
  have HY := Lib.hid hY
  have HN0 := Lib.hid h
  obtain ⟨xl, hxl⟩ : ∃ xl, xl = X.length := ⟨_, rfl⟩
  obtain ⟨yl, hyl⟩ : ∃ yl, yl = Y.length := ⟨_, rfl⟩
  have k0 : (m : Int) - a = (xl : Int) := by omega
  have k00 : IntKind.i64.wrap (xl : Int) = xl := IntWalk.i64_in _ (by omega)
  have k01 : ((xl : Int) == 1) = false := by rw [beq_eq_false_iff_ne]; omega
  have k02 : (b : Int) - m = (yl : Int) := by omega
  have k03 : IntKind.i64.wrap (yl : Int) = yl := IntWalk.i64_in _ (by omega)
  have k04 : ((yl : Int) == 1) = false := by rw [beq_eq_false_iff_ne]; omega
  have k05 : ¬ (xl : Int) = 1 := by omega
  have k06 : ¬ (yl : Int) = 1 := by omega
  have ham : a + 2 ≤ m := by omega
  have hmb : m + 2 ≤ b := by omega
  obtain ⟨d, hd⟩ : ∃ d, d = (a + b) / 2 := ⟨_, rfl⟩
  have k1 : ((a : Int) + b) / 2 = (d : Int) := by omega
  have k2 : IntKind.u64.wrap ((a : Int) + b) = (a : Int) + b := by simp [IntKind.wrap, IntKind.bits, IntKind.signed]; omega
  obtain ⟨t, ht⟩ : ∃ t, t = d + m := ⟨_, rfl⟩
  have k3 : (d : Int) + m = (t : Int) := by omega
  have k4 : IntKind.i64.wrap (t : Int) = t := IntWalk.i64_in _ (by omega)
  obtain ⟨u, hu⟩ : ∃ u, u = t - 1 := ⟨_, rfl⟩
  have k10 : (t : Int) - 1 = (u : Int) := by omega
  have k11 : IntKind.i64.wrap (u : Int) = u := IntWalk.i64_in _ (by omega)
  obtain ⟨s0, r0, hs0, hr0⟩ : ∃ s0 r0, s0 = (if d < m then t - b else a) ∧ r0 = (if d < m then d else m) := ⟨_, _, rfl, rfl⟩
  have hsr : s0 ≤ r0 ∧ a ≤ s0 ∧ r0 ≤ m ∧ (d < m → s0 = t - b ∧ r0 = d) ∧ (¬ d < m → s0 = a ∧ r0 = m) := by
    rw [hs0, hr0]
    split <;> refine ⟨by omega, by omega, by omega, fun h => by omega, fun h => by omega⟩
  obtain ⟨hsr1, hsr2, hsr3, hsr4, hsr5⟩ := hsr
  have HC := Lib.hid (And.intro hsr4 hsr5)
  have HD := Lib.hid (And.intro hd (And.intro ht hu))
  have hdb : d < b := by omega
  have had : a < d := by omega
  have htb : b ≤ t ∨ ¬ d < m := by omega
  have ht60 : t ≤ 200 := by omega
  clear ih ha hm hb hokX hokY hX hY h hlen hxl hyl hX2 hY2 hs0 hr0 hsr4 hsr5 hd ht hu
  unfold Merges
  go_enter Try.func14, Try.ntmps14
  go_upto_if 140 with fail
  go_cut [20, 21] (fun sv rv W => sv = .int .i64 s0 ∧ rv = .int .i64 r0 ∧ W = w)
  case first => as_aux_lemma =>
    by_cases hdm : d < m
    · obtain ⟨h1, h2⟩ := HC.out.1 hdm
      have k7 : (t : Int) - b = (s0 : Int) := by omega
      have k8 : IntKind.i64.wrap (s0 : Int) = s0 := IntWalk.i64_in _ (by omega)
      have k9 : decide ((d : Int) < m) = true := decide_eq_true (by omega)
      subst h2
      clear h1
      go_wp2_with fail
      go_meet
      exact ⟨rfl, rfl, rfl⟩
    · obtain ⟨h1, h2⟩ := HC.out.2 hdm
      have k9 : decide ((d : Int) < m) = false := decide_eq_false (by omega)
      subst h1 h2
      go_wp2_with fail
      go_meet
      exact ⟨rfl, rfl, rfl⟩
  case rest =>
  obtain ⟨rfl, rfl, hww⟩ := hcut
  subst hww
  go_wp2_with fail
  clear k00 k01 k02 k03 k04 k05 k06 k0 k1 k2 k3 k10
  go_loopg [20, 21] (r0 - s0) (fun gk sv rv W => ∃ (s r : Nat), gk = r - s ∧ sv = .int .i64 s ∧ rv = .int .i64 r ∧ s0 ≤ s ∧ s ≤ r ∧ r ≤ r0 ∧ (s = s0 ∨ ∃ x y, X[s - a - 1]? = some x ∧ Y[t - s - m]? = some y ∧ x.key ≤ y.key) ∧ (r = r0 ∨ ∃ x y, X[r - a]? = some x ∧ Y[t - 1 - r - m]? = some y ∧ y.key ≤ x.key) ∧ Now base g n cap (A ++ (X ++ (Y ++ B))) w0 W)
  case atStart => as_aux_lemma => exact ⟨s0, r0, rfl, rfl, rfl, Nat.le_refl _, hsr1, Nat.le_refl _, Or.inl rfl, Or.inl rfl, HN0.out⟩
  case round => as_aux_lemma =>
    obtain ⟨s, r, hgk, rfl, rfl, hs0, hsr, hr0, hi, hj, hnow⟩ := hrel
    have HK := Lib.hid hgk
    have HI := Lib.hid hi
    have HJ := Lib.hid hj
    have HNOW := Lib.hid hnow
    clear hgk hi hj hnow
    by_cases hlt : s < r
    · obtain ⟨p, hp⟩ : ∃ p, p = (s + r) / 2 := ⟨_, rfl⟩
      have hip : s ≤ p := by omega
      have hpj : p < r := by omega
      have k1 : ((s : Int) + r) / 2 = (p : Int) := by omega
      have k6 : IntKind.u64.wrap ((s : Int) + r) = (s : Int) + r := by simp [IntKind.wrap, IntKind.bits, IntKind.signed]; omega
      have hAl := HA.out
      have hMl := HM.out
      have hBl := HB.out
      obtain ⟨hd, ht, hu⟩ := HD.out
      have hq : m ≤ u - p ∧ u - p < b ∧ p ≤ u := by
        by_cases hdm : d < m
        · have := HC.out.1 hdm; omega
        · have := HC.out.2 hdm; omega
      obtain ⟨q, hqq⟩ : ∃ q, q = u - p := ⟨_, rfl⟩
      have k7 : (u : Int) - p = (q : Int) := by omega
      have k8 : IntKind.i64.wrap (q : Int) = q := IntWalk.i64_in _ (by omega)
      obtain ⟨x, hx⟩ : ∃ x, X[p - a]? = some x := ⟨_, List.getElem?_eq_getElem (by omega)⟩
      obtain ⟨y, hy⟩ : ∃ y, Y[q - m]? = some y := ⟨_, List.getElem?_eq_getElem (by omega)⟩
      have hDx : (A ++ (X ++ (Y ++ B)))[p]? = some x := by
        rw [List.getElem?_append_right (by omega), hAl, List.getElem?_append_left (by omega)]
        exact hx
      have hDy : (A ++ (X ++ (Y ++ B)))[q]? = some y := by
        rw [List.getElem?_append_right (by omega), hAl, List.getElem?_append_right (by omega), List.getElem?_append_left (by omega), show q - a - X.length = q - m by omega]
        exact hy
      obtain ⟨c0, c1, c2⟩ := HNOW.out.at_ hDy
      obtain ⟨e0, e1, e2⟩ := HNOW.out.at_ hDx
      have hC' := Lib.hid (fun W => cmp_any y x (HOKY.out y (List.mem_of_getElem? hy)) (HOKX.out x (List.mem_of_getElem? hx)) W)
      have HXP := Lib.hid hx
      have HYP := Lib.hid (show Y[t - 1 - p - m]? = some y by rw [show t - 1 - p - m = q - m by omega]; exact hy)
      have HPQ := Lib.hid (And.intro ht (And.intro hu hqq))
      have k2 : (p : Int) < n := by omega
      have k3 : p < n := by omega
      have k4 : (q : Int) < n := by omega
      have k5 : q < n := by omega
      clear hx hy hDx hDy hp hd ht hu hq hqq hAl hMl hBl
      go_upto_region 35 with fail
      go_cut [171] (fun cv W => ∃ c : Bool, cv = .bool c ∧ (c = true → x.key ≤ y.key) ∧ (c = false → y.key < x.key) ∧ Now base g n cap (A ++ (X ++ (Y ++ B))) w0 W)
      case first => as_aux_lemma =>
        generalize x.a = xa at e0 hC'
        generalize x.b = xb at e1 hC'
        generalize x.v = xv at e2 hC'
        generalize y.a = ya at c0 hC'
        generalize y.b = yb at c1 hC'
        generalize y.v = yv at c2 hC'
        go_still_tail 11, (by kernel_rfl)
        go_wp2_with fail
        refine (hC'.out _).mono ?_
        rintro e w3 ⟨⟨v, rfl, hv⟩, hb⟩
        have HB3 := Lib.hid ((Below.refl _ wr).drew.trans hb)
        have HV := Lib.hid hv
        clear hb hv
        go_wp2_with fail
        go_meet
        case rel => as_aux_lemma =>
          refine ⟨_, rfl, fun h => ?_, fun h => ?_, HNOW.out.later HB3.out⟩
          · simp at h
            have h5 := HV.out
            omega
          · simp at h
            have h5 := HV.out
            omega
      case rest =>
        obtain ⟨c, rfl, hct, hcf, hnow3⟩ := hcut
        obtain ⟨wb, rfl⟩ : ∃ wb : World, wb = wc := ⟨_, rfl⟩
        have HNOW3 := Lib.hid hnow3
        have HCT := Lib.hid hct
        have HCF := Lib.hid hcf
        clear hnow3 hct hcf c0 c1 c2 e0 e1 e2
        cases c with
        | false => as_aux_lemma =>
          go_wp2_with fail
          go_roundg (p - s)
          case measure => have := HK.out; omega
          case rel => as_aux_lemma => exact ⟨s, p, rfl, rfl, rfl, hs0, hip, by omega, HI.out, Or.inr ⟨x, y, HXP.out, HYP.out, Nat.le_of_lt (HCF.out (by first | rfl | trivial))⟩, HNOW3.out⟩
        | true => as_aux_lemma =>
          go_wp2_with fail
          go_roundg (r - (p + 1))
          case measure => have := HK.out; omega
          case rel => as_aux_lemma => exact ⟨p + 1, r, rfl, by go_num, rfl, by omega, by omega, hr0, Or.inr ⟨x, y, by rw [show p + 1 - a - 1 = p - a by omega]; exact HXP.out, by rw [show t - (p + 1) - m = t - 1 - p - m by omega]; exact HYP.out, HCT.out (by first | rfl | trivial)⟩, HJ.out, HNOW3.out⟩
    · have hsr2' : s = r := by omega
      obtain ⟨hd, ht, hu⟩ := HD.out
      have hMl := HM.out
      have hBl := HB.out
      have hst : s ≤ t ∧ m ≤ t - s ∧ t - s ≤ b ∧ a ≤ s ∧ s ≤ m := by
        by_cases hdm : d < m
        · have := HC.out.1 hdm; omega
        · have := HC.out.2 hdm; omega
      obtain ⟨e, he⟩ : ∃ e, e = t - s := ⟨_, rfl⟩
      have k1 : (t : Int) - s = (e : Int) := by omega
      have k2 : IntKind.i64.wrap (e : Int) = e := IntWalk.i64_in _ (by omega)
      have hspl := asc_split Tri.key (i := s - a) (j := e - m) HX.out HY.out (by
        rcases HI.out with h1 | ⟨x, y, h1, h2, h3⟩
        · by_cases hdm : d < m
          · have := HC.out.1 hdm; exact Or.inr (Or.inl (by omega))
          · have := HC.out.2 hdm; exact Or.inl (by omega)
        · exact Or.inr (Or.inr ⟨x, y, h1, by rw [he]; exact h2, h3⟩)) (by
        rcases HJ.out with h1 | ⟨x, y, h1, h2, h3⟩
        · by_cases hdm : d < m
          · have := HC.out.1 hdm; exact Or.inr (Or.inl (by omega))
          · have := HC.out.2 hdm; exact Or.inl (by omega)
        · exact Or.inr (Or.inr ⟨x, y, by rw [hsr2']; exact h1, by rw [show e - m - 1 = t - 1 - r - m by omega]; exact h2, h3⟩))
      obtain ⟨X1, X2, hXX, hX1⟩ : ∃ X1 X2, X = X1 ++ X2 ∧ X1 = X.take (s - a) ∧ X2 = X.drop (s - a) := ⟨_, _, (List.take_append_drop _ _).symm, rfl, rfl⟩
      obtain ⟨Y1, Y2, hYY, hY1⟩ : ∃ Y1 Y2, Y = Y1 ++ Y2 ∧ Y1 = Y.take (e - m) ∧ Y2 = Y.drop (e - m) := ⟨_, _, (List.take_append_drop _ _).symm, rfl, rfl⟩
      rw [← hX1.1, ← hX1.2, ← hY1.1, ← hY1.2] at hspl
      have hlX1 : a + X1.length = s := by rw [hX1.1, List.length_take]; omega
      have hlX2 : s + X2.length = m := by rw [hX1.2, List.length_drop]; omega
      have hlY1 : s + Y1.length = d := by rw [hY1.1, List.length_take]; omega
      have hlY1' : m + Y1.length = e := by rw [hY1.1, List.length_take]; omega
      have hlY2 : e + Y2.length = b := by rw [hY1.2, List.length_drop]; omega
      have hlde : d + X2.length = e := by omega
      have hnow := HNOW.out
      rw [hXX, hYY] at hnow
      have HSPL := Lib.hid hspl
      have HLS := Lib.hid (And.intro hlX1 (And.intro hlX2 (And.intro hlY1 (And.intro hlY1' (And.intro hlY2 hlde)))))
      have HXX := Lib.hid (And.intro hXX hYY)
      have HNW := Lib.hid hnow
      have hsm : s ≤ m := hst.2.2.2.2
      have hme : m ≤ e := by omega
      have heb : e ≤ b := by omega
      have has : a ≤ s := hst.2.2.2.1
      have hsd : s ≤ d := by omega
      have hde : d ≤ e := by omega
      clear hspl hX1 hY1 hXX hYY hlX1 hlX2 hlY1 hlY1' hlY2 hlde hnow hst he hd ht hu hMl hBl hsr2' hs0 hsr hr0
      go_upto_region 39 with fail
      go_cut [185] (fun cv W => ∃ c : Bool, cv = .bool c ∧ (c = true → s < m ∧ m < e) ∧ (c = false → ¬ (s < m ∧ m < e)) ∧ Now base g n cap (A ++ ((X1 ++ X2) ++ ((Y1 ++ Y2) ++ B))) w0 W)
      case first => as_aux_lemma =>
        by_cases h1 : s < m
        · have d1 : decide ((s : Int) < m) = true := decide_eq_true (by omega)
          by_cases h2 : m < e
          · have d2 : decide ((m : Int) < e) = true := decide_eq_true (by omega)
            go_wp2_with fail
            go_meet
            exact ⟨true, rfl, fun _ => ⟨h1, h2⟩, fun h => by simp at h, HNW.out⟩
          · have d2 : decide ((m : Int) < e) = false := decide_eq_false (by omega)
            go_wp2_with fail
            go_meet
            exact ⟨false, rfl, fun h => by simp at h, fun _ h => h2 h.2, HNW.out⟩
        · have d1 : decide ((s : Int) < m) = false := decide_eq_false (by omega)
          go_wp2_with fail
          go_meet
          exact ⟨false, rfl, fun h => by simp at h, fun _ h => h1 h.1, HNW.out⟩
      case rest =>
      obtain ⟨c1, rfl, hct1, hcf1, hnw1⟩ := hcut
      obtain ⟨W1, rfl⟩ : ∃ W : World, W = wc := ⟨_, rfl⟩
      have HNW1 := Lib.hid hnw1
      have HC1 := Lib.hid (And.intro hct1 hcf1)
      clear hct1 hcf1 hnw1
      go_upto_if 185 with fail
      go_cut [] (fun W => Now base g n cap (A ++ ((X1 ++ Y1) ++ ((X2 ++ Y2) ++ B))) w0 W)
      case first => as_aux_lemma =>
        obtain ⟨hlX1, hlX2, hlY1, hlY1', hlY2, hlde⟩ := HLS.out
        cases c1 with
        | false =>
          have hn := HC1.out.2 rfl
          have hf : Now base g n cap (A ++ ((X1 ++ Y1) ++ ((X2 ++ Y2) ++ B))) w0 W1 := by
            have h1 := HNW1.out
            by_cases h2 : X2 = []
            · subst h2; simpa using h1
            · have h3 : 0 < X2.length := List.length_pos_iff.mpr h2
              have h4 : Y1 = [] := List.eq_nil_of_length_eq_zero (by omega)
              subst h4; simpa using h1
          have HF := Lib.hid hf
          clear hn hf hlX1 hlX2 hlY1 hlY1' hlY2 hlde
          go_wp2_with fail
          go_meet
          exact HF.out
        | true =>
          obtain ⟨h1, h2⟩ := HC1.out.1 rfl
          have hR := Lib.hid (rot_any base g n cap s m e (A ++ X1) X2 Y1 (Y2 ++ B) w0 W1 (by rw [List.length_append, HA.out]; omega) hlX2 hlY1' (by omega) (by omega) hn60 (by simpa using HNW1.out))
          clear h1 h2 hlX1 hlX2 hlY1 hlY1' hlY2 hlde
          go_wp2_with fail
          refine hR.out.mono ?_
          rintro e' w3 ⟨rfl, hn3⟩
          have HN3 := Lib.hid hn3
          clear hn3
          go_wp2_with fail
          go_meet
          simpa using HN3.out
      case rest => as_aux_lemma =>
      have HNW2 := Lib.hid hcut
      obtain ⟨W2, rfl⟩ : ∃ W : World, W = wc := ⟨_, rfl⟩
      clear hcut
      go_upto_region 41 with fail
      go_cut [199] (fun cv W => ∃ c : Bool, cv = .bool c ∧ (c = true → a < s ∧ s < d) ∧ (c = false → ¬ (a < s ∧ s < d)) ∧ Now base g n cap (A ++ ((X1 ++ Y1) ++ ((X2 ++ Y2) ++ B))) w0 W)
      case first => as_aux_lemma =>
        by_cases h1 : a < s
        · have d1 : decide ((a : Int) < s) = true := decide_eq_true (by omega)
          by_cases h2 : s < d
          · have d2 : decide ((s : Int) < d) = true := decide_eq_true (by omega)
            go_wp2_with fail
            go_meet
            exact ⟨true, rfl, fun _ => ⟨h1, h2⟩, fun h => by simp at h, HNW2.out⟩
          · have d2 : decide ((s : Int) < d) = false := decide_eq_false (by omega)
            go_wp2_with fail
            go_meet
            exact ⟨false, rfl, fun h => by simp at h, fun _ h => h2 h.2, HNW2.out⟩
        · have d1 : decide ((a : Int) < s) = false := decide_eq_false (by omega)
          go_wp2_with fail
          go_meet
          exact ⟨false, rfl, fun h => by simp at h, fun _ h => h1 h.1, HNW2.out⟩
      case rest =>
      obtain ⟨c2, rfl, hct2, hcf2, hnw3⟩ := hcut
      obtain ⟨W3, rfl⟩ : ∃ W : World, W = wc := ⟨_, rfl⟩
      have HNW3 := Lib.hid hnw3
      have HC2 := Lib.hid (And.intro hct2 hcf2)
      clear hct2 hcf2 hnw3
      go_upto_if 199 with fail
      go_cut [] (fun W => ∃ Z1 : List Tri, Z1.Perm (X1 ++ Y1) ∧ Asc Tri.key Z1 ∧ Now base g n cap (A ++ (Z1 ++ ((X2 ++ Y2) ++ B))) w0 W)
      case first => as_aux_lemma =>
        obtain ⟨hlX1, hlX2, hlY1, hlY1', hlY2, hlde⟩ := HLS.out
        have hXa : Asc Tri.key (X1 ++ X2) := by rw [← HXX.out.1]; exact HX.out
        have hYa : Asc Tri.key (Y1 ++ Y2) := by rw [← HXX.out.2]; exact HY.out
        cases c2 with
        | false =>
          have hn := HC2.out.2 rfl
          have hf : Asc Tri.key (X1 ++ Y1) := by
            by_cases h2 : X1 = []
            · subst h2; simpa using asc_left Tri.key hYa
            · have h3 : 0 < X1.length := List.length_pos_iff.mpr h2
              have h4 : Y1 = [] := List.eq_nil_of_length_eq_zero (by omega)
              subst h4; simpa using asc_left Tri.key hXa
          have HF := Lib.hid hf
          clear hn hf hXa hYa hlX1 hlX2 hlY1 hlY1' hlY2 hlde
          go_wp2_with fail
          go_meet
          exact ⟨X1 ++ Y1, List.Perm.refl _, HF.out, HNW3.out⟩
        | true =>
          obtain ⟨h1, h2⟩ := HC2.out.1 rfl
          have hR := Lib.hid (IH.out a s d A X1 Y1 ((X2 ++ Y2) ++ B) W3 (by omega) HA.out hlX1 hlY1 (fun h => by rw [h] at hlX1; simp at hlX1; omega) (fun h => by rw [h] at hlY1; simp at hlY1; omega) (fun x hx => HOKX.out x (by rw [HXX.out.1]; exact List.mem_append_left _ hx)) (fun x hx => HOKY.out x (by rw [HXX.out.2]; exact List.mem_append_left _ hx)) (asc_left Tri.key hXa) (asc_left Tri.key hYa) (by simpa using HNW3.out))
          unfold Merges at hR
          clear h1 h2 hXa hYa hlX1 hlX2 hlY1 hlY1' hlY2 hlde
          go_wp2_with fail
          refine hR.out.mono ?_
          rintro e' w3 ⟨rfl, Z1, hz1, hz2, hz3⟩
          have HZ := Lib.hid (And.intro hz1 (And.intro hz2 hz3))
          clear hz1 hz2 hz3
          go_wp2_with fail
          go_meet
          exact ⟨Z1, HZ.out.1, HZ.out.2.1, HZ.out.2.2⟩
      case rest => as_aux_lemma =>
      obtain ⟨Z1, hz1, hz2, hz3⟩ := hcut
      have HZ1 := Lib.hid (And.intro hz1 hz2)
      have HNW4 := Lib.hid hz3
      obtain ⟨W4, rfl⟩ : ∃ W : World, W = wc := ⟨_, rfl⟩
      clear hz1 hz2 hz3
      go_upto_region 43 with fail
      go_cut [213] (fun cv W => ∃ c : Bool, cv = .bool c ∧ (c = true → d < e ∧ e < b) ∧ (c = false → ¬ (d < e ∧ e < b)) ∧ Now base g n cap (A ++ (Z1 ++ ((X2 ++ Y2) ++ B))) w0 W)
      case first => as_aux_lemma =>
        by_cases h1 : d < e
        · have d1 : decide ((d : Int) < e) = true := decide_eq_true (by omega)
          by_cases h2 : e < b
          · have d2 : decide ((e : Int) < b) = true := decide_eq_true (by omega)
            go_wp2_with fail
            go_meet
            exact ⟨true, rfl, fun _ => ⟨h1, h2⟩, fun h => by simp at h, HNW4.out⟩
          · have d2 : decide ((e : Int) < b) = false := decide_eq_false (by omega)
            go_wp2_with fail
            go_meet
            exact ⟨false, rfl, fun h => by simp at h, fun _ h => h2 h.2, HNW4.out⟩
        · have d1 : decide ((d : Int) < e) = false := decide_eq_false (by omega)
          go_wp2_with fail
          go_meet
          exact ⟨false, rfl, fun h => by simp at h, fun _ h => h1 h.1, HNW4.out⟩
      case rest =>
      obtain ⟨c3, rfl, hct3, hcf3, hnw5⟩ := hcut
      obtain ⟨W5, rfl⟩ : ∃ W : World, W = wc := ⟨_, rfl⟩
      have HNW5 := Lib.hid hnw5
      have HC3 := Lib.hid (And.intro hct3 hcf3)
      clear hct3 hcf3 hnw5
      obtain ⟨hlX1, hlX2, hlY1, hlY1', hlY2, hlde⟩ := HLS.out
      have hXa : Asc Tri.key (X1 ++ X2) := by rw [← HXX.out.1]; exact HX.out
      have hYa : Asc Tri.key (Y1 ++ Y2) := by rw [← HXX.out.2]; exact HY.out
      have hfin : ∀ Z2 : List Tri, Z2.Perm (X2 ++ Y2) → Asc Tri.key Z2 → (Z1 ++ Z2).Perm (X ++ Y) ∧ Asc Tri.key (Z1 ++ Z2) := by
        intro Z2 h1 h2
        rw [HXX.out.1, HXX.out.2]
        exact ⟨perm_join HZ1.out.1 h1, asc_join Tri.key HZ1.out.1 h1 HZ1.out.2 h2 hXa hYa HSPL.out.1 HSPL.out.2⟩
      have HFIN := Lib.hid hfin
      have hlZ : Z1.length = X1.length + Y1.length := by rw [HZ1.out.1.length_eq, List.length_append]
      cases c3 with
      | false =>
        have hn := HC3.out.2 rfl
        have hf : Asc Tri.key (X2 ++ Y2) := by
          by_cases h2 : X2 = []
          · subst h2; simpa using asc_right Tri.key hYa
          · have h3 : 0 < X2.length := List.length_pos_iff.mpr h2
            have h4 : Y2 = [] := List.eq_nil_of_length_eq_zero (by omega)
            subst h4; simpa using asc_right Tri.key hXa
        have HF := Lib.hid hf
        clear hn hf hXa hYa hlX1 hlX2 hlY1 hlY1' hlY2 hlde hlZ hfin
        go_wp2_with fail
        go_end0
        obtain ⟨f1, f2⟩ := HFIN.out (X2 ++ Y2) (List.Perm.refl _) HF.out
        exact ⟨rfl, Z1 ++ (X2 ++ Y2), f1, f2, by simpa using HNW5.out⟩
      | true =>
        obtain ⟨h1, h2⟩ := HC3.out.1 rfl
        have hR := Lib.hid (IH.out d e b (A ++ Z1) X2 Y2 B W5 (by omega) (by rw [List.length_append, HA.out, hlZ]; omega) hlde hlY2 (fun h => by rw [h] at hlde; simp at hlde; omega) (fun h => by rw [h] at hlY2; simp at hlY2; omega) (fun x hx => HOKX.out x (by rw [HXX.out.1]; exact List.mem_append_right _ hx)) (fun x hx => HOKY.out x (by rw [HXX.out.2]; exact List.mem_append_right _ hx)) (asc_right Tri.key hXa) (asc_right Tri.key hYa) (by simpa using HNW5.out))
        unfold Merges at hR
        clear h1 h2 hXa hYa hlX1 hlX2 hlY1 hlY1' hlY2 hlde hlZ hfin
        go_wp2_with fail
        refine hR.out.mono ?_
        rintro e' w3 ⟨rfl, Z2, hz1, hz2, hz3⟩
        have HZ := Lib.hid (And.intro hz1 (And.intro hz2 hz3))
        clear hz1 hz2 hz3
        go_wp2_with fail
        go_end0
        obtain ⟨f1, f2⟩ := HFIN.out Z2 HZ.out.1 HZ.out.2.1
        exact ⟨rfl, Z1 ++ Z2, f1, f2, by simpa using HZ.out.2.2⟩

theorem sym_any (base g n cap : Nat) (hn60 : n ≤ 60) (w0 : World) : ∀ (k a m b : Nat) (A X Y B : List Tri) (w : World), b - a ≤ k → A.length = a → a + X.length = m → m + Y.length = b → X ≠ [] → Y ≠ [] → (∀ x ∈ X, Tri.Ok x) → (∀ x ∈ Y, Tri.Ok x) → Asc Tri.key X → Asc Tri.key Y → Now base g n cap (A ++ (X ++ (Y ++ B))) w0 w → Merges base g n cap a m b A X Y B w0 w := by
  intro k
  induction k with
  | zero =>
    intro a m b A X Y B w hk ha hm hb hX0 hY0
    have := List.length_pos_iff.mpr hX0
    omega
  | succ k ih =>
    intro a m b A X Y B w hk ha hm hb hX0 hY0 hoX hoY hX hY h
    have hx := List.length_pos_iff.mpr hX0
    have hy := List.length_pos_iff.mpr hY0
    by_cases h1 : X.length = 1
    · obtain ⟨x, rfl⟩ := List.length_eq_one_iff.1 h1
      exact sym_one base g n cap a m b A Y B x w0 w ha (by simpa using hm) hb hn60 (hoX x (by simp)) hoY hY (by simpa using h)
    by_cases h2 : Y.length = 1
    · obtain ⟨y, rfl⟩ := List.length_eq_one_iff.1 h2
      exact sym_last base g n cap a m b A X B y w0 w ha hm (by simpa using hb) h1 hn60 (hoY y (by simp)) hoX hX (by simpa using h)
    · exact sym_step base g n cap a m b A X Y B w0 w hn60 (fun a' m' b' A' X' Y' B' W hlt => ih a' m' b' A' X' Y' B' W (by omega)) ha hm hb (by omega) (by omega) hoX hoY hX hY h
end Go.Proofs.Ytkfgmjcdaggjcaa.Kp
