/- The set's length, walked. -/
import Derived.Test.YtpmlofllkhpihaaRsLen
namespace Go.Proofs.Ytpmlofllkhpihaa.Rs
open Go Go.RowKit

/-- A page's words, one by one. -/
theorem page_open {p : Page} (h : p.bits.length = 8) : ∃ b0 b1 b2 b3 b4 b5 b6 b7, p.bits = [b0, b1, b2, b3, b4, b5, b6, b7] := by
  obtain ⟨ref, bits⟩ := p
  match bits, h with
  | [b0, b1, b2, b3, b4, b5, b6, b7], _ => exact ⟨b0, b1, b2, b3, b4, b5, b6, b7, rfl⟩

def Paged (W : World) (g o : Nat) (r : Nat) (b0 b1 b2 b3 b4 b5 b6 b7 : Nat) : Prop :=
  W.cell? ⟨g, o, none⟩ = some (.int .u16 r) ∧ W.cell? ⟨g, o + 1, none⟩ = some (.int .u32 b0) ∧ W.cell? ⟨g, o + 2, none⟩ = some (.int .u32 b1) ∧ W.cell? ⟨g, o + 3, none⟩ = some (.int .u32 b2) ∧ W.cell? ⟨g, o + 4, none⟩ = some (.int .u32 b3) ∧
  W.cell? ⟨g, o + 5, none⟩ = some (.int .u32 b4) ∧ W.cell? ⟨g, o + 6, none⟩ = some (.int .u32 b5) ∧ W.cell? ⟨g, o + 7, none⟩ = some (.int .u32 b6) ∧ W.cell? ⟨g, o + 8, none⟩ = some (.int .u32 b7)

theorem paged {w : World} {g : Nat} {ps : List Page} (hg : Good ps) (h : ∀ j, j < ps.length * 9 → w.cell? ⟨g, j, none⟩ = (cellsOf ps)[j]?) {i : Nat} {p : Page} (hp : ps[i]? = some p) {b0 b1 b2 b3 b4 b5 b6 b7 : Nat} (hb : p.bits = [b0, b1, b2, b3, b4, b5, b6, b7]) :
    Paged w g (i * 9) p.ref b0 b1 b2 b3 b4 b5 b6 b7 := by
  have hi : i < ps.length := (List.getElem?_eq_some_iff.1 hp).1
  have hj : ∀ j, j < 9 → w.cell? ⟨g, i * 9 + j, none⟩ = p.cells[j]? := fun j hj => by rw [h _ (by omega), cellsOf_get hg i j p hp hj]
  have hc : p.cells = [.int .u16 p.ref, .int .u32 b0, .int .u32 b1, .int .u32 b2, .int .u32 b3, .int .u32 b4, .int .u32 b5, .int .u32 b6, .int .u32 b7] := by unfold Page.cells; rw [hb]; rfl
  rw [hc] at hj
  exact ⟨hj 0 (by omega), hj 1 (by omega), hj 2 (by omega), hj 3 (by omega), hj 4 (by omega), hj 5 (by omega), hj 6 (by omega), hj 7 (by omega), hj 8 (by omega)⟩

def sumTo (l : List Nat) (j : Nat) : Nat := ((l.take j).map pop).sum
theorem sumTo_succ (l : List Nat) (j : Nat) (h : j < l.length) : sumTo l (j + 1) = sumTo l j + pop (l.getD j 0) := by
  unfold sumTo
  rw [List.take_succ_eq_append_getElem h, List.map_append, List.sum_append]
  simp [List.getD_eq_getElem?_getD, List.getElem?_eq_getElem h]
theorem sumTo_le (l : List Nat) (j : Nat) : sumTo l j ≤ j * 32 := by
  induction j generalizing l with
  | zero => simp [sumTo]
  | succ j ih =>
    by_cases h : j < l.length
    · rw [sumTo_succ l j h]; have := ih l; have := pop_le 32 (l.getD j 0); unfold pop; omega
    · have : sumTo l (j + 1) = sumTo l j := by unfold sumTo; rw [List.take_of_length_le (by omega), List.take_of_length_le (by omega)]
      have := ih l; omega
theorem sumTo_all (p : Page) (h : p.bits.length = 8) : sumTo p.bits 8 = cntP p := by
  unfold sumTo cntP
  rw [List.take_of_length_le (by omega)]
def cntTo (ps : List Page) (k : Nat) : Nat := cnt (ps.take k)
theorem cntTo_succ {ps : List Page} {k : Nat} {p : Page} (h : ps[k]? = some p) : cntTo ps (k + 1) = cntTo ps k + cntP p := by
  obtain ⟨hk, hp⟩ := List.getElem?_eq_some_iff.1 h
  unfold cntTo
  rw [List.take_succ_eq_append_getElem hk, cnt_append, hp]
  simp [cnt]
theorem cntP_le {p : Page} (h : p.bits.length = 8) : cntP p ≤ 256 := by rw [← sumTo_all p h]; exact sumTo_le _ 8
theorem cntTo_le {ps : List Page} (hg : Good ps) (k : Nat) : cntTo ps k ≤ k * 256 := by
  induction k with
  | zero => simp [cntTo, cnt]
  | succ k ih =>
    cases hp : ps[k]? with
    | some p => rw [cntTo_succ hp]; have := cntP_le (hg p (List.mem_of_getElem? hp)).1; omega
    | none =>
      have hk := List.getElem?_eq_none_iff.1 hp
      have : cntTo ps (k + 1) = cntTo ps k := by unfold cntTo; rw [List.take_of_length_le (by omega), List.take_of_length_le (by omega)]
      omega

theorem val_i64 {a b : Int} (h : a = b) : Value.int .i64 a = .int .i64 b := by rw [h]

theorem run_index_u32 (w : World) (cs : Array Value) (i : Nat) (v : Value) (hi : i < 8) (hv : cs[i]? = some v) :
    (Instr.index 53 (.agg cs) (.int .i64 (i : Int))).run Try.prog w = .ok v w := by
  have h : Try.prog.underlying 53 = some (.array 8 28) := rfl
  obtain ⟨i0, h0, h1⟩ : ∃ i0, Try.prog.info? 28 = some i0 ∧ i0.size = 1 := ⟨_, rfl, rfl⟩
  simp [Instr.index, run_underlying h, asIntOf, go_sem, part, sizeOf, typeInfo, isAgg, hi, h0, h1, hv]

set_option maxHeartbeats 2000000 in
theorem len_any (n : Nat) (A : Option Addr) (cap : Nat) (ps : List Page) (w : World) (hn : ps.length = n) (hn100 : n ≤ 1000) (hg : Good ps) (hread : Reads w A ps) :
    Calls Try.prog 13 #[.slice A n cap] w fun e w' => e = .returned (.int .i64 (cnt ps)) ∧ Below w.heap.size w w' := by
  have HN := Lib.hid hn
  have HG := Lib.hid hg
  have HR := Lib.hid hread
  clear hn hg hread
  go_enter Try.func13, Try.ntmps13
  go_wp2
  go_loopg [3, 10] (n) (fun gk sv iv W => ∃ k s : Nat, k ≤ n ∧ gk = n - k ∧ sv = .int .i64 s ∧ iv = .int .i64 k ∧ s = cntTo ps k ∧ Below w.heap.size w W)
  case atStart => exact ⟨0, 0, Nat.zero_le _, rfl, rfl, rfl, rfl, Below.refl _ _⟩
  case round =>
    obtain ⟨k, s, hk, hgk, rfl, rfl, hs, hbel⟩ := hrel
    have HK := Lib.hid hgk
    have HS := Lib.hid hs
    have hs2 : s ≤ 256000 := by have := cntTo_le HG.out k; omega
    have HB := Lib.hid hbel
    clear hgk hs hbel
    by_cases hlt : k < n
    · obtain ⟨g, rfl, hcells⟩ := HR.out (by have := HN.out; omega)
      obtain ⟨p, hp⟩ : ∃ p, ps[k]? = some p := ⟨_, List.getElem?_eq_getElem (by have := HN.out; omega)⟩
      have hp8 := (HG.out p (List.mem_of_getElem? hp)).1
      obtain ⟨b0, b1, b2, b3, b4, b5, b6, b7, hbits⟩ := page_open hp8
      obtain ⟨c0, c1, c2, c3, c4, c5, c6, c7, c8⟩ := paged HG.out hcells hp hbits
      have hbl := (HG.out p (List.mem_of_getElem? hp)).2.1
      have hin : ∀ {j x}, w.cell? ⟨g, j, none⟩ = some x → wr.cell? ⟨g, j, none⟩ = some x := fun h => by
        rw [← h]; exact HB.out.cell (World.block_lt_of_cell? w _ h)
      have d0 := hin c0
      have d1 := hin c1
      have d2 := hin c2
      have d3 := hin c3
      have d4 := hin c4
      have d5 := hin c5
      have d6 := hin c6
      have d7 := hin c7
      have d8 := hin c8
      obtain ⟨rr, hrr⟩ : ∃ rr, rr = p.ref := ⟨_, rfl⟩
      rw [← hrr] at d0
      have HP := Lib.hid hp
      have H8 := Lib.hid hp8
      have HBI := Lib.hid hbits
      have HBL := Lib.hid hbl
      clear c0 c1 c2 c3 c4 c5 c6 c7 c8 hcells hin hp hp8 hbits hbl hrr
      go_wp2
      generalize hA : (#[Value.int .u32 (b0 : Int), .int .u32 (b1 : Int), .int .u32 (b2 : Int), .int .u32 (b3 : Int), .int .u32 (b4 : Int), .int .u32 (b5 : Int), .int .u32 (b6 : Int), .int .u32 (b7 : Int)] : Array Value) = A8
      have hat : ∀ j, j < 8 → A8[j]? = some (.int .u32 (p.bits.getD j 0 : Nat)) := by
        rw [← hA, HBI.out]
        intro j hj
        match j, hj with
        | 0, _ => rfl
        | 1, _ => rfl
        | 2, _ => rfl
        | 3, _ => rfl
        | 4, _ => rfl
        | 5, _ => rfl
        | 6, _ => rfl
        | 7, _ => rfl
      have HA := Lib.hid hat
      clear hA hat
      obtain ⟨wo, rfl⟩ : ∃ wo : World, wo = wr := ⟨_, rfl⟩
      have hso := HB.out.size
      go_loopg [3, 16] (8) (fun gk sv iv W => ∃ j t : Nat, j ≤ 8 ∧ gk = 8 - j ∧ sv = .int .i64 t ∧ iv = .int .i64 j ∧ t = s + sumTo p.bits j ∧ Below wo.heap.size wo W)
      case atStart =>
        refine ⟨0, s, by omega, by omega, rfl, rfl, by simp [sumTo], ?_⟩
        exact (Below.refl _ _).alloc (Nat.le_refl _) _
      case round =>
        obtain ⟨j, t, hj, hgj, rfl, rfl, ht, hbel2⟩ := hrel
        have HJ := Lib.hid hgj
        have ht2 : t ≤ 256256 := by have := sumTo_le p.bits j; omega
        have HT := Lib.hid ht
        have HB2 := Lib.hid hbel2
        clear hgj ht hbel2
        by_cases hj8 : j < 8
        · have ha := HA.out j hj8
          have hji : (j : Int) < 8 := by omega
          have hrun := fun W => run_index_u32 W A8 j _ hj8 ha
          have hb32 : p.bits.getD j 0 < 4294967296 := by
            have : j < p.bits.length := by have := H8.out; omega
            rw [List.getD_eq_getElem?_getD, List.getElem?_eq_getElem this]
            exact HBL.out _ (List.getElem_mem this)
          have H1 := Lib.hid (fun W => ones_any (p.bits.getD j 0) W hb32)
          obtain ⟨x, hx⟩ : ∃ x, x = p.bits.getD j 0 := ⟨_, rfl⟩
          rw [← hx] at hrun H1
          have HX := Lib.hid hx
          clear hx hb32 ha
          go_wp2_with fail
          refine (H1.out _).mono ?_
          rintro e w3 ⟨rfl, m, rfl⟩
          have hpl : pop x ≤ 32 := pop_le 32 x
          go_wp2
          go_roundg (8 - (j + 1))
          case measure => have := HJ.out; omega
          case rel =>
            refine ⟨j + 1, t + pop x, by omega, rfl, ?_, ?_, ?_, ?_⟩
            · exact val_i64 (by omega)
            · exact val_i64 (by omega)
            · rw [HT.out, sumTo_succ _ _ (by rw [H8.out]; exact hj8), HX.out]; omega
            · exact below_drewN HB2.out m
        · obtain rfl : j = 8 := by omega
          go_wp2
          go_roundg (n - (k + 1))
          case measure => have := HK.out; omega
          case rel =>
            refine ⟨k + 1, t, by omega, rfl, rfl, val_i64 (by omega), ?_, ?_⟩
            · rw [HT.out, cntTo_succ HP.out, sumTo_all p H8.out, HS.out]
            · exact HB.out.trans (HB2.out.mono hso)
    · go_wp2
      go_ret
      have hkn : k = ps.length := by have := HN.out; omega
      refine ⟨ret_int ?_, HB.out⟩
      rw [HS.out, hkn]
      unfold cntTo
      rw [List.take_length]
end Go.Proofs.Ytpmlofllkhpihaa.Rs
