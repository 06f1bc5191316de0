/- The law of the kinds of Indic characters, walked. -/
import Derived.Test.YtpmlofllkhpihaaInd
import Derived.WalkSmall
import Derived.Lib.Hide
namespace Go.Proofs.Ytpmlofllkhpihaa.Indic
open Go Go.RowKit

theorem lit_cell (w : World) (C : Array Value) (t k j : Nat) (hk : k = w.heap.size) : (w.alloc (.cells C t)).cell? ⟨k, j, none⟩ = C[j]? := by
  subst hk
  exact World.cell?_alloc_at _ _ _ _ rfl

set_option maxRecDepth 100000 in
set_option maxHeartbeats 1000000 in
theorem law_any (n m : Nat) (hn : n < 256) (hm : m < 256) (w : World) :
    Calls Try.prog 5 #[.int .u8 n, .int .u8 m] w fun e w' => e = .returned (.bool true) ∧ Grown w w' := by
  have hs : n % 9 < 9 := Nat.mod_lt _ (by decide)
  have ht : m % 6 < 6 := Nat.mod_lt _ (by decide)
  have hu : m % 3 < 3 := Nat.mod_lt _ (by decide)
  obtain ⟨hF1, hF2⟩ := F_le (n % 9)
  obtain ⟨hL1, hL2⟩ := L_le (m % 6)
  obtain ⟨hV1, hV2⟩ := V_le (m % 3)
  have HC : Hid (∀ W, Calls Try.prog 8 #[.int .i32 (F (n % 9) + L (m % 6))] W fun e w' => e = .returned (.tuple #[.int .i64 1, .int .i64 4]) ∧ w' = W) := fun W => cons_any _ _ hs ht W
  have HR : Hid (∀ W, Calls Try.prog 8 #[.int .i32 (F (n % 9) + 48)] W fun e w' => e = .returned (.tuple #[.int .i64 15, .int .i64 4]) ∧ w' = W) := fun W => ra_any _ hs W
  have HV : Hid (∀ W, Calls Try.prog 8 #[.int .i32 (F (n % 9) + V (m % 3))] W fun e w' => e = .returned (.tuple #[.int .i64 2, .int .i64 4]) ∧ w' = W) := fun W => vowel_any _ _ hs hu W
  have HH : Hid (∀ W, ∃ p : Int, Calls Try.prog 8 #[.int .i32 (F (n % 9) + 77)] W fun e w' => e = .returned (.tuple #[.int .i64 4, .int .i64 p]) ∧ w' = W) := fun W => vir_any _ hs W
  have hcA : (w.alloc (.cells #[.int .i32 2304, .int .i32 2432, .int .i32 2560, .int .i32 2688, .int .i32 2816, .int .i32 2944, .int .i32 3072, .int .i32 3200, .int .i32 3328] 21)).cell? ⟨w.heap.size, n % 9, none⟩ = some (.int .i32 (F (n % 9))) := by
    rw [lit_cell _ _ _ _ _ rfl]
    generalize n % 9 = s at hs
    match s, hs with
    | 0, _ | 1, _ | 2, _ | 3, _ | 4, _ | 5, _ | 6, _ | 7, _ | 8, _ => rfl
  have hcB : ∀ W : World, W.heap.size = w.heap.size + 1 → (W.alloc (.cells #[.int .i32 21, .int .i32 26, .int .i32 31, .int .i32 35, .int .i32 36, .int .i32 40] 21)).cell? ⟨w.heap.size + 1, m % 6, none⟩ = some (.int .i32 (L (m % 6))) := by
    intro W hW
    rw [lit_cell _ _ _ _ _ hW.symm]
    generalize m % 6 = s at ht
    match s, ht with
    | 0, _ | 1, _ | 2, _ | 3, _ | 4, _ | 5, _ => rfl
  have hcC : ∀ W : World, W.heap.size = w.heap.size + 2 → (W.alloc (.cells #[.int .i32 5, .int .i32 7, .int .i32 9] 21)).cell? ⟨w.heap.size + 2, m % 3, none⟩ = some (.int .i32 (V (m % 3))) := by
    intro W hW
    rw [lit_cell _ _ _ _ _ hW.symm]
    generalize m % 3 = s at hu
    match s, hu with
    | 0, _ | 1, _ | 2, _ => rfl
  obtain ⟨f, hf⟩ : ∃ f, f = F (n % 9) := ⟨_, rfl⟩
  obtain ⟨l, hl⟩ : ∃ f, f = L (m % 6) := ⟨_, rfl⟩
  obtain ⟨v, hv⟩ : ∃ f, f = V (m % 3) := ⟨_, rfl⟩
  rw [← hf] at hF1 hF2 hcA HC HR HV HH
  rw [← hl] at hL1 hL2 hcB HC
  rw [← hv] at hV1 hV2 hcC HV
  clear hf hl hv
  have hcB := hcB (w.alloc (.cells #[.int .i32 2304, .int .i32 2432, .int .i32 2560, .int .i32 2688, .int .i32 2816, .int .i32 2944, .int .i32 3072, .int .i32 3200, .int .i32 3328] 21)) (by simp)
  have hcC := hcC ((w.alloc (.cells #[.int .i32 2304, .int .i32 2432, .int .i32 2560, .int .i32 2688, .int .i32 2816, .int .i32 2944, .int .i32 3072, .int .i32 3200, .int .i32 3328] 21)).alloc (.cells #[.int .i32 21, .int .i32 26, .int .i32 31, .int .i32 35, .int .i32 36, .int .i32 40] 21)) (by simp)
  go_enter Try.func5, Try.ntmps5
  go_wp2_with fail
  refine (HC.out _).mono ?_
  rintro e w1 ⟨rfl, rfl⟩
  go_wp2_with fail
  refine (HR.out _).mono ?_
  rintro e w1 ⟨rfl, rfl⟩
  go_wp2_with fail
  refine (HV.out _).mono ?_
  rintro e w1 ⟨rfl, rfl⟩
  go_wp2_with fail
  obtain ⟨p, hp⟩ := HH.out (((w.alloc (.cells #[.int .i32 2304, .int .i32 2432, .int .i32 2560, .int .i32 2688, .int .i32 2816, .int .i32 2944, .int .i32 3072, .int .i32 3200, .int .i32 3328] 21)).alloc (.cells #[.int .i32 21, .int .i32 26, .int .i32 31, .int .i32 35, .int .i32 36, .int .i32 40] 21)).alloc (.cells #[.int .i32 5, .int .i32 7, .int .i32 9] 21))
  refine hp.mono ?_
  rintro e w1 ⟨rfl, rfl⟩
  go_wp2_with fail
  go_ret
  exact ⟨rfl, by repeat (first | exact Grown.refl _ | apply Grown.drew | apply Grown.alloc)⟩
end Go.Proofs.Ytpmlofllkhpihaa.Indic
