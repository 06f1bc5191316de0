/- The row sorted, walked. -/
import Derived.Test.YtkfgmjcdaggjcaaKpSym
namespace Go.Proofs.Ytkfgmjcdaggjcaa.Kp
open Go Go.RowKit

/-- Each block of s is sorted. -/
def Blk (s : Nat) (P : List Tri) : Prop := ∀ q, Asc Tri.key ((P.drop (s * q)).take s)
theorem Blk.append {s k : Nat} {P S : List Tri} (h : Blk s P) (hP : P.length = s * k) (hS : Asc Tri.key S) (hl : S.length ≤ s) : Blk s (P ++ S) := by
  intro q
  by_cases hq : q < k
  · have h1 : s * q + s ≤ s * k := by rw [← Nat.mul_succ]; exact Nat.mul_le_mul_left s hq
    rw [List.drop_append_of_le_length (by omega), List.take_append_of_le_length (by rw [List.length_drop]; omega)]
    exact h q
  · by_cases hq2 : q = k
    · subst hq2
      rw [← hP, List.drop_left, List.take_of_length_le hl]
      exact hS
    · have h1 : s * k + s ≤ s * q := by rw [← Nat.mul_succ]; exact Nat.mul_le_mul_left s (by omega)
      rw [List.drop_of_length_le (by rw [List.length_append]; omega), List.take_nil]
      exact List.Pairwise.nil
theorem Blk.drop {s : Nat} {R : List Tri} (h : Blk s R) (j : Nat) : Blk s (R.drop (s * j)) := by
  intro q
  rw [List.drop_drop, ← Nat.mul_add]
  exact h (j + q)
theorem Blk.nil (s : Nat) : Blk s [] := fun q => by simp; exact List.Pairwise.nil
theorem Blk.whole {s : Nat} {P : List Tri} (h : Blk s P) (hl : P.length ≤ s) : Asc Tri.key P := by
  have := h 0
  rw [Nat.mul_zero, List.drop_zero, List.take_of_length_le hl] at this
  exact this
theorem take_drop3 (R : List Tri) (s : Nat) : R = R.take s ++ ((R.drop s).take s ++ R.drop (s * 2)) := by
  conv => lhs; rw [← List.take_append_drop s R, ← List.take_append_drop s (R.drop s)]
  rw [List.drop_drop, show s + s = s * 2 by omega]

set_option maxRecDepth 1000000 in
set_option maxHeartbeats 8000000 in
theorem stable_any (base g n cap : Nat) (l : List Tri) (w0 w : World) (hn60 : n ≤ 60) (hok : ∀ x ∈ l, Tri.Ok x) (h : Now base g n cap l w0 w) :
    Calls Try.prog 10 #[.slice (some ⟨g, 0, none⟩) n cap, .int .i64 n, .func (.func 5) #[] #[]] w fun e w' => e = .returned (.tuple #[]) ∧ ∃ l', l'.Perm l ∧ Asc Tri.key l' ∧ Now base g n cap l' w0 w' := by
  have HL := Lib.hid h.len
  have HOK := Lib.hid hok
  have HN0 := Lib.hid h
  clear hok h
  go_enter Try.func10, Try.ntmps10
  go_wp2_with fail
  go_loopg [7, 8] (60) (fun gk av bv W => ∃ (k a b : Nat) (P R : List Tri), k ≤ 3 ∧ gk = 60 - 20 * k ∧ a = 20 * k ∧ b = 20 * k + 20 ∧ av = .int .i64 a ∧ bv = .int .i64 b ∧ P.length = 20 * k ∧ (P ++ R).Perm l ∧ Blk 20 P ∧ Now base g n cap (P ++ R) w0 W)
  case atStart => exact ⟨0, 0, 20, [], l, by omega, rfl, rfl, rfl, rfl, rfl, rfl, by simp, Blk.nil 20, HN0.out⟩
  case round =>
    obtain ⟨k, a, b, P, R, hk3, hgk, ha, hb, rfl, rfl, hP, hperm, hblk, hnow⟩ := hrel
    have HK := Lib.hid hgk
    have hlen := hnow.len
    rw [List.length_append] at hlen
    have HPP := Lib.hid hP
    have HPERM := Lib.hid hperm
    have HBLK := Lib.hid hblk
    have HNOW := Lib.hid hnow
    have HAB := Lib.hid (And.intro ha hb)
    by_cases hlt : b ≤ n
    · have hI := Lib.hid (ins_any base g n cap a b P (R.take 20) (R.drop 20) w0 wr (by omega) (by rw [List.length_take]; omega) hn60 (fun x hx => HOK.out x (hperm.subset (List.mem_append_right _ (List.mem_of_mem_take hx)))) (by rw [List.take_append_drop]; exact hnow))
      have hk2 : k < 3 := by omega
      have hR20 : (R.take 20).length = 20 := by rw [List.length_take]; omega
      have HR20 := Lib.hid hR20
      obtain ⟨c, hc⟩ : ∃ c, c = b + 20 := ⟨_, rfl⟩
      have d0 : (b : Int) + 20 = (c : Int) := by omega
      have d1 : IntKind.i64.wrap (c : Int) = c := IntWalk.i64_in _ (by omega)
      have HCC := Lib.hid hc
      clear hgk hP hperm hblk hnow ha hb hlen hR20 hc
      go_wp2_with fail
      refine hI.out.mono ?_
      rintro e w1 ⟨rfl, S', hp, hs, hn1⟩
      have HS := Lib.hid (And.intro hp (And.intro hs hn1))
      clear hp hs hn1
      go_wp2_with fail
      go_roundg (60 - 20 * (k + 1))
      case measure => have := HK.out; omega
      case rel =>
        obtain ⟨hp, hs, hn1⟩ := HS.out
        obtain ⟨ha, hb⟩ := HAB.out
        have hl : S'.length = 20 := by rw [hp.length_eq]; exact HR20.out
        refine ⟨k + 1, b, c, P ++ S', R.drop 20, by omega, rfl, by omega, by have := HCC.out; omega, rfl, rfl, by rw [List.length_append, HPP.out]; omega, ?_, HBLK.out.append HPP.out hs (by omega), by simpa using hn1⟩
        · refine List.Perm.trans ?_ HPERM.out
          rw [List.append_assoc]
          refine List.Perm.append_left _ ?_
          refine (List.Perm.append_right _ hp).trans ?_
          rw [List.take_append_drop]
    · have hI := Lib.hid (ins_any base g n cap a n P R [] w0 wr (by omega) (by omega) hn60 (fun x hx => HOK.out x (hperm.subset (List.mem_append_right _ hx))) (by rw [List.append_nil]; exact hnow))
      have hRl : R.length ≤ 20 := by omega
      have HRL := Lib.hid hRl
      clear hgk hP hperm hblk hnow ha hb hlen hRl
      go_wp2_with fail
      refine hI.out.mono ?_
      rintro e w1 ⟨rfl, S', hp, hs, hn1⟩
      have hst : (P ++ S').Perm l ∧ Blk 20 (P ++ S') ∧ Now base g n cap (P ++ S') w0 w1 := ⟨(List.Perm.append_left _ hp).trans HPERM.out, HBLK.out.append HPP.out hs (by rw [hp.length_eq]; exact HRL.out), by simpa using hn1⟩
      obtain ⟨L, hL⟩ : ∃ L, L = P ++ S' := ⟨_, rfl⟩
      rw [← hL] at hst
      have HST := Lib.hid hst
      clear hp hs hn1 hst hL HPP HPERM HBLK HNOW HRL hI HAB HK
      go_wp2_with fail
      go_loopg [6, 7, 8] (80) (fun gk sv av bv W => ∃ (s : Nat) (L : List Tri), (s = 20 ∨ s = 40 ∨ s = 80) ∧ gk = 100 - s ∧ sv = .int .i64 s ∧ L.Perm l ∧ Blk s L ∧ Now base g n cap L w0 W)
      case atStart => exact ⟨20, L, Or.inl rfl, rfl, rfl, HST.out.1, HST.out.2.1, HST.out.2.2⟩
      case round =>
        obtain ⟨s, L, hs, hgk, rfl, hperm, hblk, hnow⟩ := hrel
        have HK := Lib.hid hgk
        have hlen := hnow.len
        have HLEN := Lib.hid hlen
        have HPERM := Lib.hid hperm
        have HBLK := Lib.hid hblk
        have HNOW := Lib.hid hnow
        have hs80 : s ≤ 80 := by omega
        have HSS := Lib.hid hs
        clear hgk hperm hblk hnow hlen HST
        by_cases hlt : s < n
        · obtain ⟨s2, hs2⟩ : ∃ s2, s2 = 2 * s := ⟨_, rfl⟩
          have k0 : 2 * (s : Int) = (s2 : Int) := by omega
          have k1 : IntKind.i64.wrap (s2 : Int) = s2 := IntWalk.i64_in _ (by omega)
          have k2 : (s : Int) * 2 = (s2 : Int) := by omega
          have hs40 : s ≤ 40 := by omega
          have hs20 : 20 ≤ s := by omega
          have HS2 := Lib.hid hs2
          clear hs2 hs
          go_wp2_with fail
          go_loopg [7, 8] (n) (fun gk av bv W => ∃ (k a b : Nat) (P R : List Tri), gk = n - a ∧ a = s2 * k ∧ b = a + s2 ∧ a ≤ n ∧ av = .int .i64 a ∧ bv = .int .i64 b ∧ P.length = a ∧ (P ++ R).Perm l ∧ Blk s2 P ∧ Blk s R ∧ Now base g n cap (P ++ R) w0 W)
          case atStart => exact ⟨0, 0, s2, [], L, rfl, rfl, by omega, Nat.zero_le _, rfl, rfl, rfl, HPERM.out, Blk.nil _, HBLK.out, HNOW.out⟩
          case round =>
            obtain ⟨k, a, b, P, R, hgk2, ha, hb, han, rfl, rfl, hP, hperm2, hb1, hb2, hnow2⟩ := hrel
            have HK2 := Lib.hid hgk2
            have hlen := hnow2.len
            rw [List.length_append] at hlen
            have hs2' := HS2.out
            have HPERM2 := Lib.hid hperm2
            have HB1 := Lib.hid hb1
            have HB2 := Lib.hid hb2
            have HN2 := Lib.hid hnow2
            have HPA := Lib.hid (And.intro ha (And.intro hb hP))
            by_cases hlt2 : b ≤ n
            · have hX : (R.take s).length = s := by rw [List.length_take]; omega
              have hY : ((R.drop s).take s).length = s := by rw [List.length_take, List.length_drop]; omega
              have hsp := take_drop3 R s
              have hmem : ∀ x ∈ R, Tri.Ok x := fun x hx => HOK.out x (hperm2.subset (List.mem_append_right _ hx))
              have hM := sym_any base g n cap hn60 w0 (b - a) a (a + s) b P (R.take s) ((R.drop s).take s) (R.drop (s * 2)) wr (Nat.le_refl _) hP (by rw [hX]) (by rw [hY]; omega) (fun h => by rw [h] at hX; simp at hX; omega) (fun h => by rw [h] at hY; simp at hY; omega) (fun x hx => hmem x (List.mem_of_mem_take hx)) (fun x hx => hmem x (List.mem_of_mem_drop (List.mem_of_mem_take hx))) (by have := hb2 0; simpa using this) (by have := hb2 1; simpa using this) (by rw [← hsp]; exact hnow2)
              unfold Merges at hM
              have HM := Lib.hid hM
              obtain ⟨m, hm⟩ : ∃ m, m = a + s := ⟨_, rfl⟩
              rw [← hm] at HM
              have k3 : (a : Int) + s = (m : Int) := by omega
              have k4 : IntKind.i64.wrap (m : Int) = m := IntWalk.i64_in _ (by omega)
              obtain ⟨c, hc⟩ : ∃ c, c = b + s2 := ⟨_, rfl⟩
              have k5 : IntKind.i64.wrap (c : Int) = c := IntWalk.i64_in _ (by omega)
              have k6 : (b : Int) + s2 = (c : Int) := by omega
              have HCC := Lib.hid hc
              have hbp : 0 < s2 := by omega
              clear hgk2 ha hb hP hperm2 hb1 hb2 hnow2 hlen hX hY hsp hmem hM hm hs2' hc
              go_wp2_with fail
              refine HM.out.mono ?_
              rintro e w2 ⟨rfl, Z, hz1, hz2, hz3⟩
              have HZ := Lib.hid (And.intro hz1 (And.intro hz2 hz3))
              clear hz1 hz2 hz3
              go_wp2_with fail
              go_roundg (n - b)
              case measure => have := HK2.out; have := HPA.out.2.1; omega
              case rel =>
                obtain ⟨hz1, hz2, hz3⟩ := HZ.out
                obtain ⟨ha, hb', hP⟩ := HPA.out
                have hsp := take_drop3 R s
                have hZl : Z.length = s2 := by
                  have h1 := hz1.length_eq
                  have h2 := HN2.out.len
                  rw [List.length_append] at h2
                  rw [List.length_append, List.length_take, List.length_take, List.length_drop] at h1
                  have := HS2.out
                  omega
                refine ⟨k + 1, b, c, P ++ Z, R.drop (s * 2), rfl, by rw [Nat.mul_succ]; omega, HCC.out, hlt2, rfl, rfl, by rw [List.length_append, hZl]; omega, ?_, HB1.out.append (k := k) (by omega) hz2 (by omega), HB2.out.drop 2, by simpa using hz3⟩
                refine List.Perm.trans ?_ HPERM2.out
                rw [List.append_assoc]
                refine List.Perm.append_left _ ?_
                refine (List.Perm.append_right _ hz1).trans ?_
                rw [List.append_assoc, ← hsp]
            · obtain ⟨m, hm⟩ : ∃ m, m = a + s := ⟨_, rfl⟩
              have k3 : (a : Int) + s = (m : Int) := by omega
              have k4 : IntKind.i64.wrap (m : Int) = m := IntWalk.i64_in _ (by omega)
              by_cases hmn : m < n
              · have hX : (R.take s).length = s := by rw [List.length_take]; omega
                have hY : (R.drop s).length = n - m := by rw [List.length_drop]; omega
                have hmem : ∀ x ∈ R, Tri.Ok x := fun x hx => HOK.out x (hperm2.subset (List.mem_append_right _ hx))
                have hM := sym_any base g n cap hn60 w0 (n - a) a m n P (R.take s) (R.drop s) [] wr (Nat.le_refl _) hP (by rw [hX, hm]) (by rw [hY]; omega) (fun h => by rw [h] at hX; simp at hX; omega) (fun h => by rw [h] at hY; simp at hY; omega) (fun x hx => hmem x (List.mem_of_mem_take hx)) (fun x hx => hmem x (List.mem_of_mem_drop hx)) (by have := hb2 0; simpa using this) (by have := hb2 1; rw [Nat.mul_one, List.take_of_length_le (by omega)] at this; exact this) (by rw [List.append_nil, List.take_append_drop]; exact hnow2)
                unfold Merges at hM
                have HM := Lib.hid hM
                have hRl : R.length ≤ s2 := by omega
                have HRL := Lib.hid hRl
                clear hgk2 ha hb hP hperm2 hb1 hb2 hnow2 hlen hX hY hmem hM hm hs2' hRl
                go_wp2_with fail
                refine HM.out.mono ?_
                rintro e w2 ⟨rfl, Z, hz1, hz2, hz3⟩
                have HZ := Lib.hid (And.intro hz1 (And.intro hz2 hz3))
                clear hz1 hz2 hz3
                go_wp2_with fail
                go_roundg (100 - s2)
                case measure => have := HK.out; have := HS2.out; omega
                case rel =>
                  obtain ⟨hz1, hz2, hz3⟩ := HZ.out
                  obtain ⟨ha, hb', hP⟩ := HPA.out
                  rw [List.take_append_drop] at hz1
                  refine ⟨s2, P ++ Z, by have := HSS.out; have := HS2.out; omega, rfl, rfl, (List.Perm.append_left _ hz1).trans HPERM2.out, HB1.out.append (k := k) (by omega) hz2 (by rw [hz1.length_eq]; exact HRL.out), by simpa using hz3⟩
              · have hRl : R.length ≤ s := by omega
                have hRa : Asc Tri.key R := Blk.whole hb2 hRl
                have HRL := Lib.hid (And.intro hRl hRa)
                clear hgk2 ha hb hP hperm2 hb1 hb2 hnow2 hlen hm hs2' hRl hRa
                go_wp2_with fail
                go_roundg (100 - s2)
                case measure => have := HK.out; have := HS2.out; omega
                case rel =>
                  obtain ⟨ha, hb', hP⟩ := HPA.out
                  refine ⟨s2, P ++ R, by have := HSS.out; have := HS2.out; omega, rfl, rfl, HPERM2.out, HB1.out.append (k := k) (by omega) HRL.out.2 (by have := HRL.out.1; have := HS2.out; omega), HN2.out⟩
        · have HF := Lib.hid (HBLK.out.whole (by have := HLEN.out; omega))
          clear hs
          go_wp2_with fail
          go_end0
          exact ⟨rfl, L, HPERM.out, HF.out, HNOW.out⟩

theorem sort_any (base g n cap : Nat) (l : List Tri) (w0 w : World) (hn60 : n ≤ 60) (hok : ∀ x ∈ l, Tri.Ok x) (h : Now base g n cap l w0 w) :
    Calls Try.prog 4 #[.slice (some ⟨g, 0, none⟩) n cap, .func (.func 5) #[] #[]] w fun e w' => e = .returned (.tuple #[]) ∧ ∃ l', l'.Perm l ∧ Asc Tri.key l' ∧ Now base g n cap l' w0 w' := by
  have H := Lib.hid (stable_any base g n cap l w0 w hn60 hok h)
  clear hok h
  go_enter Try.func4, Try.ntmps4
  go_wp2_with fail
  refine H.out.mono ?_
  rintro e w1 ⟨rfl, l', h1, h2, h3⟩
  have HS := Lib.hid (And.intro h1 (And.intro h2 h3))
  clear h1 h2 h3
  go_wp2
  go_end0
  exact ⟨rfl, l', HS.out.1, HS.out.2.1, HS.out.2.2⟩
end Go.Proofs.Ytkfgmjcdaggjcaa.Kp
