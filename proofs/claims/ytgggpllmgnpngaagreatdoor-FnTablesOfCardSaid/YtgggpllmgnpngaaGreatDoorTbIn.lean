/- A table found in a file's bytes: walked. -/
import Derived.Test.YtgggpllmgnpngaaGreatDoorTbEqual
namespace Go.Proofs.YtgggpllmgnpngaaGreatDoor.Tb
open Go Go.RowKit

set_option maxRecDepth 100000 in
set_option maxHeartbeats 4000000 in
theorem four_any (T B N cap o : Nat) (a b c d : Nat) (w : World) (hN : o + 4 ≤ N) (hN2 : N ≤ 100000) (hs : w.cell? ⟨T, 0, none⟩ = some (.slice (some ⟨B, 0, none⟩) N cap)) (ha : a < 256) (hb : b < 256) (hc : c < 256) (hd : d < 256)
    (c0 : w.cell? ⟨B, o, none⟩ = some (.int .u8 a)) (c1 : w.cell? ⟨B, o + 1, none⟩ = some (.int .u8 b)) (c2 : w.cell? ⟨B, o + 2, none⟩ = some (.int .u8 c)) (c3 : w.cell? ⟨B, o + 3, none⟩ = some (.int .u8 d)) :
    Calls Tryz.prog 31 #[.int .i64 o, .pointer (some ⟨T, 0, none⟩)] w fun e w' => e = .returned (.int .i64 (be4 a b c d : Nat)) ∧ ∃ q, w' = w.drewN q := by
  have k0 : (0 : Int) ≤ o := by omega
  have k1 : (o : Int) < N := by omega
  have k2 : (o : Int) + 1 < N := by omega
  have k3 : (o : Int) + 2 < N := by omega
  have k4 : (o : Int) + 3 < N := by omega
  have k5 : (0 : Int) ≤ (o : Int) + 1 := by omega
  have k6 : (0 : Int) ≤ (o : Int) + 2 := by omega
  have k7 : (0 : Int) ≤ (o : Int) + 3 := by omega
  have w1 : IntKind.i64.wrap ((o : Int) + 1) = (o : Int) + 1 := IntWalk.i64_in _ (by omega)
  have w2 : IntKind.i64.wrap ((o : Int) + 2) = (o : Int) + 2 := IntWalk.i64_in _ (by omega)
  have w3 : IntKind.i64.wrap ((o : Int) + 3) = (o : Int) + 3 := IntWalk.i64_in _ (by omega)
  go_enter Tryz.func31, Tryz.ntmps31
  go_upto_region 1 with fail
  go_quiet (fail)
  go_wp2_with fail
  go_ret
  refine ⟨?_, nq, rfl⟩
  show Ending.returned (.int .i64 ((a : Int) * 16777216 + (b : Int) * 65536 + (c : Int) * 256 + (d : Int))) = _
  congr 2

theorem be4_inj {a b c d a' b' c' d' : Nat} (hb : b < 256) (hc : c < 256) (hd : d < 256) (hb' : b' < 256) (hc' : c' < 256) (hd' : d' < 256) (h : be4 a b c d = be4 a' b' c' d') : a = a' ∧ b = b' ∧ c = c' ∧ d = d' := by
  unfold be4 at h
  omega
theorem eb_lt {bs : List Nat} {at_ ln : Nat → Nat} (h : Dir bs at_ ln) (i j : Nat) : eb bs i j < 256 := by
  unfold eb
  rw [List.getD_eq_getElem?_getD]
  cases e : bs[12 + 16 * i + j]? with
  | none => simp
  | some b => exact h.byte b (List.mem_of_getElem? e)
theorem eb_at {bs : List Nat} {at_ ln : Nat → Nat} (h : Dir bs at_ ln) {i j : Nat} (hi : i < 8) (hj : j < 16) : bs[12 + 16 * i + j]? = some (eb bs i j) := by
  have := h.len.1
  unfold eb
  rw [List.getD_eq_getElem?_getD, List.getElem?_eq_getElem (by omega)]
  rfl
theorem tag_byte {bs : List Nat} {at_ ln : Nat → Nat} (h : Dir bs at_ ln) {i : Nat} (hi : i < 8) : eb bs i 0 = ((tags.getD i []).getD 0 0).toNat ∧ eb bs i 1 = ((tags.getD i []).getD 1 0).toNat ∧ eb bs i 2 = ((tags.getD i []).getD 2 0).toNat ∧ eb bs i 3 = ((tags.getD i []).getD 3 0).toNat :=
  be4_inj (eb_lt h i 1) (eb_lt h i 2) (eb_lt h i 3) (UInt8.toNat_lt _) (UInt8.toNat_lt _) (UInt8.toNat_lt _) (h.tag i hi)

theorem tag_bytes : ∀ i, i < 8 → tag i = ⟨#[(tags.getD i []).getD 0 0, (tags.getD i []).getD 1 0, (tags.getD i []).getD 2 0, (tags.getD i []).getD 3 0]⟩ := by decide +kernel
theorem conv_dir {B c : Nat} {bs : List Nat} {at_ ln : Nat → Nat} {w : World} (hd : Dir bs at_ ln) (hc : ∀ j b, bs[j]? = some b → w.cell? ⟨B, j, none⟩ = some (.int .u8 (b : Nat))) {j : Nat} (hj : j < 8) :
    (convert 24 9 (.slice (some ⟨B, 12 + 16 * j, none⟩) 4 c)).run Tryz.prog w = .ok (.string (tag j)) w := by
  rw [tag_bytes j hj]
  obtain ⟨t0, t1, t2, t3⟩ := tag_byte hd hj
  refine run_convert_bytes_back (P := Tryz.prog) _ 24 9 5 ⟨B, 12 + 16 * j, none⟩ c [(tags.getD j []).getD 0 0, (tags.getD j []).getD 1 0, (tags.getD j []).getD 2 0, (tags.getD j []).getD 3 0] Tryz.underlying24 Tryz.underlying5 Tryz.underlying9 (fun k hk => ?_)
  rw [Addr.add_lit]
  match k, hk with
  | 0, _ => have := hc _ _ (eb_at hd hj (show 0 < 16 by omega)); rw [t0] at this; exact this
  | 1, _ => have := hc _ _ (eb_at hd hj (show 1 < 16 by omega)); rw [t1] at this; exact this
  | 2, _ => have := hc _ _ (eb_at hd hj (show 2 < 16 by omega)); rw [t2] at this; exact this
  | 3, _ => have := hc _ _ (eb_at hd hj (show 3 < 16 by omega)); rw [t3] at this; exact this

theorem tags_ne : ∀ i, i < 8 → ∀ j, j < 8 → i ≠ j → ((tag i).toList == (tag j).toList) = false := by decide +kernel

set_option maxRecDepth 100000 in
set_option maxHeartbeats 8000000 in
theorem in_any (B N cap i : Nat) (bs : List Nat) (at_ ln : Nat → Nat) (w : World) (hd : Dir bs at_ ln) (hp : ∀ i, i < 8 → 0 < ln i) (h : InMem B N cap bs w) (hi : i < 8) :
    Calls Tryz.prog 8 #[.slice (some ⟨B, 0, none⟩) N cap, .string (tag i)] w fun e w' => e = .returned (.tuple #[.slice (some ⟨B, at_ i, none⟩) (ln i) (cap - at_ i), .bool true]) ∧ Below w.heap.size w w' := by
  obtain ⟨T, hT⟩ : ∃ T, T = w.heap.size := ⟨_, rfl⟩
  obtain ⟨w1, hw1⟩ : ∃ w1, w1 = w.alloc (.cells #[.slice (some ⟨B, 0, none⟩) N cap] 24) := ⟨_, rfl⟩
  have hb1 : Below w.heap.size w w1 := by rw [hw1]; exact (Below.refl _ _).alloc (Nat.le_refl _) _
  have t0 : w1.cell? ⟨T, 0, none⟩ = some (.slice (some ⟨B, 0, none⟩) N cap) := by rw [hw1, hT, cell_in (heap_alloc_new w _)]; rfl
  have hc1 : ∀ j b, bs[j]? = some b → w1.cell? ⟨B, j, none⟩ = some (.int .u8 (b : Nat)) := fun j b hj => below_cell hb1 (h.cell j b hj)
  obtain ⟨b0, b1, b2, b3, b4, b5⟩ := hd.head
  have c4 := hc1 4 _ b4
  have c5 := hc1 5 _ b5
  have hN := h.len
  have hl := hd.len
  have hroom := h.room
  have HH := Lib.hid (And.intro hd (And.intro hp (And.intro hc1 (And.intro hb1 (And.intro hw1 hT)))))
  obtain ⟨s, hs⟩ : ∃ s, s = tag i := ⟨_, rfl⟩
  rw [← hs]
  have HS := Lib.hid hs
  have n1 : ¬ (N : Int) < 12 := by omega
  have n2 : (4 : Int) < N := by omega
  have n3 : (5 : Int) < N := by omega
  clear hd hp hc1 hb1 hw1 hT hs b0 b1 b2 b3 b4 b5 h
  go_enter Tryz.func8, Tryz.ntmps8
  go_upto_region 1 with fail
  rw [← HH.out.2.2.2.2.1, ← HH.out.2.2.2.2.2]
  go_upto_region 3 with fail
  go_quiet (fail)
  go_wp2_with fail
  go_loopg [26] (8) (fun gk iv W => ∃ j : Nat, j ≤ i ∧ gk = 8 - j ∧ iv = .int .i64 j ∧ ∃ q, W = w1.drewN q)
  case atStart => exact ⟨0, by omega, rfl, rfl, nq, rfl⟩
  case round =>
    obtain ⟨j, hj, hgk, rfl, q, rfl⟩ := hrel
    have HK := Lib.hid hgk
    clear hgk
    have k1 : (j : Int) < 8 := by omega
    have k2 : IntKind.i64.wrap (16 * (j : Int)) = 16 * (j : Int) := IntWalk.i64_in _ (by omega)
    have k3 : IntKind.i64.wrap (12 + 16 * (j : Int)) = 12 + 16 * (j : Int) := IntWalk.i64_in _ (by omega)
    have k4 : IntKind.i64.wrap (12 + 16 * (j : Int) + 16) = 12 + 16 * (j : Int) + 16 := IntWalk.i64_in _ (by omega)
    have k5 : ¬ (N : Int) < 12 + 16 * (j : Int) + 16 := by omega
    have k6 : IntKind.i64.wrap (12 + 16 * (j : Int) + 4) = 12 + 16 * (j : Int) + 4 := IntWalk.i64_in _ (by omega)
    have k7 : ¬ cap = 12 + 16 * j := by omega
    have k8 : 12 + 16 * (j : Int) + 4 ≤ cap := by omega
    have k9 : (0 : Int) ≤ 12 + 16 * (j : Int) := by omega
    have hcv : (convert 24 9 (.slice (some ⟨B, 12 + 16 * j, none⟩) 4 (cap - (12 + 16 * j)))).run Tryz.prog (w1.drewN q) = .ok (.string (tag j)) (w1.drewN q) := conv_dir (w := w1.drewN q) (j := j) HH.out.1 (fun t b hb => HH.out.2.2.1 t b hb) (by omega)
    by_cases hji : j = i
    · subst hji
      rw [← HS.out] at hcv
      have hb := HH.out.2.2.1
      have hdir := HH.out.1
      have e8 : ((12 + 16 * j + 8 : Nat) : Int) = 12 + 16 * (j : Int) + 8 := by omega
      have e12 : ((12 + 16 * j + 12 : Nat) : Int) = 12 + 16 * (j : Int) + 12 := by omega
      have HF1 : Hid (∀ q, Calls Tryz.prog 31 #[.int .i64 (12 + 16 * (j : Int) + 8), .pointer (some ⟨T, 0, none⟩)] (w1.drewN q) fun e w' => e = .returned (.int .i64 (at_ j : Nat)) ∧ ∃ q1, w' = w1.drewN q1) := Lib.hid fun q => by
        have h := four_any T B N cap (12 + 16 * j + 8) (eb bs j (4 * 2)) (eb bs j (4 * 2 + 1)) (eb bs j (4 * 2 + 2)) (eb bs j (4 * 2 + 3)) (w1.drewN q) (by omega) (by omega) t0 (eb_lt hdir _ _) (eb_lt hdir _ _) (eb_lt hdir _ _) (eb_lt hdir _ _) (hb _ _ (eb_at hdir hi (show 8 < 16 by omega))) (hb _ _ (eb_at hdir hi (show 9 < 16 by omega))) (hb _ _ (eb_at hdir hi (show 10 < 16 by omega))) (hb _ _ (eb_at hdir hi (show 11 < 16 by omega)))
        rw [e8] at h
        refine h.mono ?_
        rintro e w' ⟨rfl, q1, rfl⟩
        exact ⟨by rw [← hdir.off j hi]; rfl, q + q1, World.drewN_drewN _ _ _⟩
      have HF2 : Hid (∀ q, Calls Tryz.prog 31 #[.int .i64 (12 + 16 * (j : Int) + 12), .pointer (some ⟨T, 0, none⟩)] (w1.drewN q) fun e w' => e = .returned (.int .i64 (ln j : Nat)) ∧ ∃ q1, w' = w1.drewN q1) := Lib.hid fun q => by
        have h := four_any T B N cap (12 + 16 * j + 12) (eb bs j (4 * 3)) (eb bs j (4 * 3 + 1)) (eb bs j (4 * 3 + 2)) (eb bs j (4 * 3 + 3)) (w1.drewN q) (by omega) (by omega) t0 (eb_lt hdir _ _) (eb_lt hdir _ _) (eb_lt hdir _ _) (eb_lt hdir _ _) (hb _ _ (eb_at hdir hi (show 12 < 16 by omega))) (hb _ _ (eb_at hdir hi (show 13 < 16 by omega))) (hb _ _ (eb_at hdir hi (show 14 < 16 by omega))) (hb _ _ (eb_at hdir hi (show 15 < 16 by omega)))
        rw [e12] at h
        refine h.mono ?_
        rintro e w' ⟨rfl, q1, rfl⟩
        exact ⟨by rw [← hdir.size j hi]; rfl, q + q1, World.drewN_drewN _ _ _⟩
      have hfit := hdir.fit j hi
      have hpos := HH.out.2.1 j hi
      have m1 : IntKind.i64.wrap (12 + 16 * (j : Int) + 8) = 12 + 16 * (j : Int) + 8 := IntWalk.i64_in _ (by omega)
      have m2 : IntKind.i64.wrap (12 + 16 * (j : Int) + 12) = 12 + 16 * (j : Int) + 12 := IntWalk.i64_in _ (by omega)
      obtain ⟨o, ho⟩ : ∃ o, o = at_ j := ⟨_, rfl⟩
      obtain ⟨k, hk⟩ : ∃ k, k = ln j := ⟨_, rfl⟩
      rw [← ho, ← hk] at hfit
      rw [← hk] at hpos
      rw [← ho] at HF1
      rw [← hk] at HF2
      have HOK := Lib.hid (And.intro ho hk)
      have m3 : ¬ (N : Int) < o := by omega
      have m4 : ¬ (N : Int) - o < k := by omega
      have m5 : (o : Int) + k ≤ cap := by omega
      have m6 : ¬ cap = o := by omega
      have m7 : (0 : Int) ≤ o := by omega
      have m8 : IntKind.i64.wrap ((o : Int) + k) = o + k := IntWalk.i64_in _ (by omega)
      have m9 : IntKind.i64.wrap ((N : Int) - o) = N - o := IntWalk.i64_in _ (by omega)
      clear ho hk e8 e12
      clear hb hdir
      go_wp2_with fail
      with_reducible refine (HF1.out _).mono ?_
      rintro e w2 ⟨rfl, q1, rfl⟩
      go_wp2_with fail
      with_reducible refine (HF2.out _).mono ?_
      rintro e w2 ⟨rfl, q2, rfl⟩
      go_wp2_with fail
      go_ret2
      rw [← HOK.out.1, ← HOK.out.2]
      have hok : o + k - o = k := by omega
      exact ⟨by rw [hok]; rfl, below_drewN HH.out.2.2.2.1 q2⟩
    · have hne : ((tag j).toList == s.toList) = false := by rw [HS.out]; exact tags_ne j (by omega) i hi hji
      obtain ⟨tx, htx⟩ : ∃ t, t = tag j := ⟨_, rfl⟩
      rw [← htx] at hcv hne
      clear htx
      go_wp2_with fail
      go_roundg (8 - (j + 1))
      case measure => rw [HK.out]; omega
      case rel => exact ⟨j + 1, by omega, rfl, by go_num, q, rfl⟩
end Go.Proofs.YtgggpllmgnpngaaGreatDoor.Tb
