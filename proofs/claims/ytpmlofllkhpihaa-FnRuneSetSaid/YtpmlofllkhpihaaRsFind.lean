/- The binary search for a page, walked. -/
import Derived.Test.YtpmlofllkhpihaaProg
import Derived.Test.YtpmlofllkhpihaaRs
import Derived.WalkKit
import Derived.WalkSmall
import Derived.Deep.LoopGhost
import Derived.KernelRfl
import Derived.Lib.Hide
namespace Go.Proofs.Ytpmlofllkhpihaa.Rs
open Go Go.RowKit

/-- What a slice of pages reads as. -/
def Reads (w : World) (A : Option Addr) (ps : List Page) : Prop :=
  0 < ps.length → ∃ g, A = some ⟨g, 0, none⟩ ∧ ∀ j, j < ps.length * 9 → w.cell? ⟨g, j, none⟩ = (cellsOf ps)[j]?

theorem Reads.ref {w : World} {g : Nat} {ps : List Page} (hg : Good ps) (h : ∀ j, j < ps.length * 9 → w.cell? ⟨g, j, none⟩ = (cellsOf ps)[j]?) {i : Nat} {p : Page} (hp : ps[i]? = some p) :
    w.cell? ⟨g, i * 9, none⟩ = some (.int .u16 (p.ref : Nat)) := by
  have hi : i < ps.length := (List.getElem?_eq_some_iff.1 hp).1
  rw [h _ (by omega)]
  have := cellsOf_get hg i 0 p hp (by omega)
  simpa [Page.cells] using this

theorem pair_lt {ps : List Page} (h : Rising ps) {i j : Nat} {p q : Page} (hij : i < j) (hp : ps[i]? = some p) (hq : ps[j]? = some q) : p.ref < q.ref := by
  obtain ⟨a, rfl⟩ := List.getElem?_eq_some_iff.1 hp
  obtain ⟨b, rfl⟩ := List.getElem?_eq_some_iff.1 hq
  exact List.pairwise_iff_getElem.1 h i j a b hij
theorem ret_int {a b : Int} (h : a = b) : Ending.returned (.int .i64 a) = .returned (.int .i64 b) := by rw [h]

set_option maxHeartbeats 1000000 in
theorem find_any (A : Option Addr) (n cap : Nat) (ps : List Page) (ref : Nat) (w : World) (hn : ps.length = n) (hn100 : n ≤ 1000) (hg : Good ps) (hr : Rising ps) (hread : Reads w A ps) (_href : ref < 65536) :
    Calls Try.prog 23 #[.slice A n cap, .int .i64 0, .int .u16 ref] w fun e w' => e = .returned (.int .i64 (if hit ps ref then (lo ps ref : Int) else -((lo ps ref : Int) + 1))) ∧ w = w' := by
  have HN := Lib.hid hn
  clear hn
  obtain ⟨r, hres⟩ : ∃ r : Int, r = if hit ps ref then (lo ps ref : Int) else -((lo ps ref : Int) + 1) := ⟨_, rfl⟩
  rw [← hres]
  have HR := Lib.hid hres
  clear hres
  go_enter Try.func23, Try.ntmps23
  go_wp2
  go_loopg [1, 7] (n) (fun gk lv hv W => ∃ l h : Nat, l ≤ n ∧ h ≤ n ∧ l ≤ h ∧ gk = h - l ∧ lv = .int .i64 l ∧ hv = .int .i64 ((h : Int) - 1) ∧ (∀ i p, i < l → ps[i]? = some p → p.ref < ref) ∧ (∀ i p, h ≤ i → ps[i]? = some p → ref < p.ref) ∧ w = W)
  case atStart => exact ⟨0, n, by omega, by omega, by omega, by omega, rfl, rfl, fun i p h => by omega, fun i p h hp => by have := (List.getElem?_eq_some_iff.1 hp).1; have := HN.out; omega, rfl⟩
  case round =>
    obtain ⟨l, h, hln, hhn, hlh, hgk, rfl, rfl, hbelow, habove, rfl⟩ := hrel
    have HB := Lib.hid hbelow
    have HA := Lib.hid habove
    have HG := Lib.hid hgk
    clear hbelow habove hgk
    by_cases hlt : l < h
    · have hm : (l + (h - 1)) / 2 < h := by omega
      obtain ⟨mid, hmid⟩ : ∃ mid, mid = (l + (h - 1)) / 2 := ⟨_, rfl⟩
      have hm1 : l ≤ mid := by omega
      have hm2 : mid < h := by omega
      obtain ⟨p, hp⟩ : ∃ p, ps[mid]? = some p := by
        have : mid < ps.length := by have := HN.out; omega
        exact ⟨_, List.getElem?_eq_getElem this⟩
      obtain ⟨g, rfl, hc⟩ := hread (by have := HN.out; omega)
      have hcell := Reads.ref hg hc hp
      have hpr : p.ref < 65536 := (hg p (List.mem_of_getElem? hp)).2.2
      have e1 : ((l : Int) + ((h : Int) - 1)) / 2 = (mid : Int) := by omega
      have HM := Lib.hid hmid
      have HP := Lib.hid hp
      clear hmid hp hc hread
      rcases Nat.lt_trichotomy p.ref ref with hcmp | hcmp | hcmp
      · have t1 : ((p.ref : Int) == (ref : Int)) = false := by rw [beq_eq_false_iff_ne]; omega
        have t2 : (p.ref : Int) < (ref : Int) := by omega
        go_wp2
        go_roundg (h - (mid + 1))
        case measure => have := HG.out; omega
        case rel =>
          refine ⟨mid + 1, h, by omega, by omega, by omega, rfl, by go_num, rfl, ?_, HA.out, rfl⟩
          intro i q hi hq
          rcases Nat.lt_or_ge i mid with h1 | h1
          · rcases Nat.lt_or_ge i l with h2 | h2
            · exact HB.out i q h2 hq
            · have := pair_lt hr h1 hq HP.out; omega
          · obtain rfl : i = mid := by omega
            have := HP.out
            rw [hq] at this
            cases this
            exact hcmp
      · have t1 : ((p.ref : Int) == (ref : Int)) = true := by rw [beq_iff_eq]; omega
        have hfin : r = (mid : Int) := by
          obtain ⟨a, b⟩ := lo_hit hr HP.out hcmp
          rw [HR.out, b, if_pos rfl, ← a]
        have HF := Lib.hid hfin
        clear hfin hcmp
        go_wp2
        go_ret
        exact ⟨ret_int HF.out.symm, rfl⟩
      · have t1 : ((p.ref : Int) == (ref : Int)) = false := by rw [beq_eq_false_iff_ne]; omega
        have t2 : ¬ (p.ref : Int) < (ref : Int) := by omega
        go_wp2
        go_roundg (mid - l)
        case measure => have := HG.out; omega
        case rel =>
          refine ⟨l, mid, by omega, by omega, by omega, rfl, rfl, rfl, HB.out, ?_, rfl⟩
          intro i q hi hq
          rcases Nat.lt_or_ge mid i with h1 | h1
          · have := pair_lt hr h1 HP.out hq; omega
          · obtain rfl : i = mid := by omega
            have := HP.out
            rw [hq] at this
            cases this
            exact hcmp
    · obtain rfl : l = h := by omega
      obtain ⟨el, eh⟩ := lo_unique hr (by have := HN.out; omega) HB.out HA.out
      have hfin : r = -((l : Int) + 1) := by rw [HR.out, eh, ← el]; rfl
      have HF := Lib.hid hfin
      have hb := HB.out
      clear hfin el eh
      cases l with
      | zero =>
        go_wp2
        go_ret
        exact ⟨ret_int (by rw [HF.out]; rfl), rfl⟩
      | succ m =>
        obtain ⟨p, hp⟩ : ∃ p, ps[m]? = some p := by
          have : m < ps.length := by have := HN.out; omega
          exact ⟨_, List.getElem?_eq_getElem this⟩
        obtain ⟨g, rfl, hc⟩ := hread (by have := HN.out; omega)
        have hcell := Reads.ref hg hc hp
        have hpr : p.ref < 65536 := (hg p (List.mem_of_getElem? hp)).2.2
        have hcmp := hb m p (by omega) hp
        have t2 : (p.ref : Int) < (ref : Int) := by omega
        have e1 : (((m + 1 : Nat) : Int) - 1) = (m : Int) := by omega
        clear hp hc hread hb
        go_wp2
        go_ret
        exact ⟨ret_int (by rw [HF.out]; omega), rfl⟩

/-- The search among the pages of a set. -/
theorem pos_any (A : Option Addr) (n cap : Nat) (ps : List Page) (ref : Nat) (w : World) (hn : ps.length = n) (hn100 : n ≤ 1000) (hg : Good ps) (hr : Rising ps) (hread : Reads w A ps) (href : ref < 65536) :
    Calls Try.prog 20 #[.slice A n cap, .int .u16 ref] w fun e w' => e = .returned (.int .i64 (if hit ps ref then (lo ps ref : Int) else -((lo ps ref : Int) + 1))) ∧ w = w' := by
  have H := Lib.hid (find_any A n cap ps ref w hn hn100 hg hr hread href)
  obtain ⟨r, hres⟩ : ∃ r : Int, r = if hit ps ref then (lo ps ref : Int) else -((lo ps ref : Int) + 1) := ⟨_, rfl⟩
  rw [← hres] at H ⊢
  clear hres hn hg hr hread href
  go_enter Try.func20, Try.ntmps20
  go_wp2_with fail
  refine H.out.mono ?_
  rintro e w1 ⟨rfl, rfl⟩
  go_wp2
  go_ret
  exact ⟨rfl, rfl⟩

theorem page_any_hit (g n cap : Nat) (ps : List Page) (ref : Nat) (w : World) (hn : ps.length = n) (hn100 : n ≤ 1000) (hg : Good ps) (hr : Rising ps) (hread : Reads w (some ⟨g, 0, none⟩) ps) (href : ref < 65536) (hh : hit ps ref = true) :
    Calls Try.prog 16 #[.slice (some ⟨g, 0, none⟩) n cap, .int .u16 ref] w fun e w' => e = .returned (.pointer (some ⟨g, lo ps ref * 9 + 1, none⟩)) ∧ w = w' := by
  have H := Lib.hid (pos_any (some ⟨g, 0, none⟩) n cap ps ref w hn hn100 hg hr hread href)
  rw [hh, if_pos rfl] at H
  have hl : lo ps ref < n := by
    unfold hit at hh
    cases hp : ps[lo ps ref]? with
    | none => rw [hp] at hh; simp at hh
    | some p => have := (List.getElem?_eq_some_iff.1 hp).1; omega
  obtain ⟨l, hlo⟩ : ∃ l, l = lo ps ref := ⟨_, rfl⟩
  rw [← hlo] at H hl ⊢
  clear hlo hn hg hr hread href hh
  go_enter Try.func16, Try.ntmps16
  go_wp2_with fail
  refine H.out.mono ?_
  rintro e w1 ⟨rfl, rfl⟩
  go_wp2
  go_ret
  exact ⟨rfl, rfl⟩

theorem page_any_miss (A : Option Addr) (n cap : Nat) (ps : List Page) (ref : Nat) (w : World) (hn : ps.length = n) (hn100 : n ≤ 1000) (hg : Good ps) (hr : Rising ps) (hread : Reads w A ps) (href : ref < 65536) (hh : hit ps ref = false) :
    Calls Try.prog 16 #[.slice A n cap, .int .u16 ref] w fun e w' => e = .returned (.pointer none) ∧ w = w' := by
  have H := Lib.hid (pos_any A n cap ps ref w hn hn100 hg hr hread href)
  rw [hh, if_neg (by simp)] at H
  have hl : lo ps ref ≤ n := by have := lo_le ps ref; omega
  obtain ⟨l, hlo⟩ : ∃ l, l = lo ps ref := ⟨_, rfl⟩
  rw [← hlo] at H hl
  clear hlo hn hg hr hread href hh
  go_enter Try.func16, Try.ntmps16
  go_wp2_with fail
  refine H.out.mono ?_
  rintro e w1 ⟨rfl, rfl⟩
  go_wp2
  go_ret
  exact ⟨rfl, rfl⟩
end Go.Proofs.Ytpmlofllkhpihaa.Rs
