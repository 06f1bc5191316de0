/- A region parsed, walked. -/
import Derived.Test.YtdknpamegphjlaaRead
namespace Go.Proofs.Ytdknpamegphjlaa.Sd
open Go Go.RowKit

/-- The result's variable as it was made, the item's with these cells. -/
structure Item (ty : TypeId) (z : List Value) (w W : World) (c : List Value) : Prop where
  row0 : W.heap[w.heap.size]? = some (.cells z.toArray ty (0, 0))
  row : W.heap[w.heap.size + 1]? = some (.cells c.toArray ty (0, 0))
  size : w.heap.size + 2 ≤ W.heap.size
  below : Below w.heap.size w W

section
variable {ty : TypeId} {z : List Value}
theorem Item.start (ty : TypeId) (z : List Value) (w : World) : Item ty z w ((w.alloc (.cells z.toArray ty)).alloc (.cells z.toArray ty)) z := by
  refine ⟨?_, ?_, ?_, ((Below.refl _ _).alloc (Nat.le_refl _) _).alloc (by simp) _⟩
  · rw [Below.heap_alloc _ _ _ (by simp)]; exact heap_alloc_new w _
  · have := heap_alloc_new (w.alloc (.cells z.toArray ty)) (.cells z.toArray ty)
    rwa [World.size_alloc] at this
  · simp
theorem Item.later {w W W1 : World} {c : List Value} (h : Item ty z w W c) (hb : Below W.heap.size W W1) : Item ty z w W1 c := by
  have hs := h.size
  exact ⟨(hb.block _ (by omega)).trans h.row0, (hb.block _ (by omega)).trans h.row, Nat.le_trans hs hb.size, h.below.trans (hb.mono (by omega))⟩
theorem Item.set {w W : World} {c : List Value} (h : Item ty z w W c) (i : Nat) (v : Value) : Item ty z w (W.setCell ⟨w.heap.size + 1, i, none⟩ v) (c.set i v) := by
  have hs := h.size
  refine ⟨?_, ?_, by rw [World.size_setCell]; exact hs, h.below.setCell (by show w.heap.size ≤ w.heap.size + 1; omega) _⟩
  · rw [Below.heap_setCell _ _ _ _ (by show w.heap.size ≠ w.heap.size + 1; omega)]; exact h.row0
  · rw [set_row h.row]; simp
theorem Item.cell {w W : World} {c : List Value} (h : Item ty z w W c) {i : Nat} {v : Value} (hi : c[i]? = some v) : W.cell? ⟨w.heap.size + 1, i, none⟩ = some v ∧ W.frozen? ⟨w.heap.size + 1, i, none⟩ = false ∧ w.heap.size + 1 < W.heap.size := by
  refine ⟨by rw [cell_in h.row]; simpa using hi, frozen_in h.row, by have := h.size; omega⟩
end

/-- The first records parsed. -/
structure RowsA (G n k : Nat) (l : List Ax) (W : World) : Prop where
  row : ∃ cur : List Value, W.heap[G]? = some (.cells cur.toArray 108 (0, 0)) ∧ cur.length = n * 3 ∧ ∀ j t i, j < k → l[j]? = some t → i < 3 → cur[j * 3 + i]? = some (axVal t i)

/-- A region's axes in memory. -/
def Ax16 (G : Nat) (r : List Ax) (w : World) : Prop := ∀ j t i, r[j]? = some t → i < 3 → w.cell? ⟨G, j * 3 + i, none⟩ = some (axVal t i)

def RegP (ax : Nat) (r : List Ax) (w : World) (e : Ending) (w' : World) : Prop :=
  ∃ G : Nat, e = .returned (.tuple #[.agg #[.slice (some ⟨G, 0, none⟩) ax ax], .int .i64 (6 * (ax : Int)), .nilIface]) ∧ w.heap.size ≤ G ∧ G < w'.heap.size ∧ Ax16 G r w' ∧ Below w.heap.size w w'

theorem info108 : (Try.prog.info? 108).map (fun i => (i.zero, i.size, i.bytes)) = some (some (.agg #[.int .i16 0, .int .i16 0, .int .i16 0]), 3, 6) := by kernel_rfl
theorem results_3 {fn : Func} {t u v : Tmp} {ty : TypeId} (h : fn.results = #[.cell t ty, .tmp u, .tmp v]) (tmps : Array Value) (P : Program) (w : World) (ad : Addr) (x : Value) (ht : tmps.getD t undef = .pointer (some ad)) (hl : (loadVar ty ad).run P w = .ok x w) :
    (results fn tmps).run P w = .ok (.tuple #[x, tmps.getD u undef, tmps.getD v undef]) w := by
  have ht' : tmps[t]?.getD undef = .pointer (some ad) := by simpa using ht
  simp [results, h, ht', asAddr, hl]
theorem axNums_at (l : List Ax) : ∀ (j : Nat) (t : Ax), l[j]? = some t → (axNums l)[j * 3]? = some t.a ∧ (axNums l)[j * 3 + 1]? = some t.b ∧ (axNums l)[j * 3 + 2]? = some t.c := by
  induction l with
  | nil => intro j t h; simp at h
  | cons y l ih =>
    intro j t h
    have e : axNums (y :: l) = y.a :: y.b :: y.c :: axNums l := by simp [axNums]
    rw [e]
    cases j with
    | zero => simp at h; subst h; exact ⟨rfl, rfl, rfl⟩
    | succ j =>
      have := ih j t (by simpa using h)
      rw [show (j + 1) * 3 = j * 3 + 1 + 1 + 1 by omega]
      simpa using this

set_option maxRecDepth 1000000 in
set_option maxHeartbeats 4000000 in
theorem reg_any (g off N cap ax : Nat) (r : List Ax) (w : World) (hl : r.length = ax) (hN : 6 * ax ≤ N) (h0 : 0 < ax) (h3 : ax ≤ 3) (hcap : N ≤ cap) (hcm : cap ≤ 9223372036854775807) (hg : g < w.heap.size) (hok : ∀ x ∈ r, Ax.Ok x) (hr : Reads w g off (shorts (axNums r))) :
    Calls Try.prog 28 #[.slice (some ⟨g, off, none⟩) N cap, .int .i64 ax] w (RegP ax r w) := by
  have HL := Lib.hid hl
  have HOK := Lib.hid hok
  have HR := Lib.hid hr
  obtain ⟨q6, hq6⟩ : ∃ q6, q6 = 6 * ax := ⟨_, rfl⟩
  have k6 : 6 * (ax : Int) = q6 := by omega
  have k6' : (ax : Int) * 6 = q6 := by omega
  have k6w : IntKind.i64.wrap (q6 : Int) = q6 := IntWalk.i64_in _ (by omega)
  have hl1 : decide (N < q6) = false := decide_eq_false (by omega)
  have HS := Lib.hid (Item.start 90 [.slice none 0 0] w)
  have HQ := Lib.hid hq6
  have hmk : ∀ u : World, (Instr.makeSlice 88 (.int .i64 ax) (.int .i64 ax)).run Try.prog u = .ok (.slice (some ⟨u.heap.size, 0, none⟩) ax ax) (u.alloc (.cells (madeCells #[.int .i16 0, .int .i16 0, .int .i16 0] (ax * 3)) 108)) := fun u => by
    obtain ⟨i0, hi, hz0, hz1, hz2⟩ := info_parts info108
    have := run_make u (P := Try.prog) 88 108 i0 _ Try.underlying88 hi hz0 .i64 .i64 ax ax (by omega) (Int.le_refl _) (by rw [hz2]; omega) (by omega)
    simpa [hz1, Value.cells] using this
  clear hl hok hr hq6
  go_enter Try.func28, Try.ntmps28
  go_upto_region 7 with fail
  go_cut [25, 24, 22, 23] (fun a b _ _ W => a = .int .i64 0 ∧ b = .int .i64 ax ∧ Item 90 [.slice none 0 0] w W [.slice (some ⟨w.heap.size + 1 + 1, 0, none⟩) ax ax] ∧ RowsA (w.heap.size + 1 + 1) ax 0 r W)
  case first =>
    have hi : Item 90 [.slice none 0 0] w (((w.alloc (.cells #[.slice none 0 0] 90)).alloc (.cells #[.slice (some ⟨w.heap.size + 1 + 1, 0, none⟩) ax ax] 90)).alloc (.cells (madeCells #[.int .i16 0, .int .i16 0, .int .i16 0] (ax * 3)) 108)) [.slice (some ⟨w.heap.size + 1 + 1, 0, none⟩) ax ax] := by
      refine ⟨?_, ?_, by simp, (((Below.refl _ _).alloc (Nat.le_refl _) _).alloc (by simp) _).alloc (by simp; omega) _⟩
      · rw [Below.heap_alloc _ _ _ (by simp; omega), Below.heap_alloc _ _ _ (by simp)]; exact heap_alloc_new w _
      · rw [Below.heap_alloc _ _ _ (by simp)]
        have := heap_alloc_new (w.alloc (.cells #[.slice none 0 0] 90)) (.cells #[.slice (some ⟨w.heap.size + 1 + 1, 0, none⟩) ax ax] 90)
        rwa [World.size_alloc] at this
    have hr0 : RowsA (w.heap.size + 1 + 1) ax 0 r (((w.alloc (.cells #[.slice none 0 0] 90)).alloc (.cells #[.slice (some ⟨w.heap.size + 1 + 1, 0, none⟩) ax ax] 90)).alloc (.cells (madeCells #[.int .i16 0, .int .i16 0, .int .i16 0] (ax * 3)) 108)) := by
      refine ⟨(madeCells #[.int .i16 0, .int .i16 0, .int .i16 0] (ax * 3)).toList, ?_, ?_, fun j t i hj => absurd hj (by omega)⟩
      · have := heap_alloc_new ((w.alloc (.cells #[.slice none 0 0] 90)).alloc (.cells #[.slice (some ⟨w.heap.size + 1 + 1, 0, none⟩) ax ax] 90)) (.cells (madeCells #[.int .i16 0, .int .i16 0, .int .i16 0] (ax * 3)) 108)
        rw [World.size_alloc, World.size_alloc] at this
        simpa using this
      · simpa using size_madeCells _ _
    have HI := Lib.hid (And.intro hi hr0)
    clear hi hr0
    go_wp2_with fail
    go_meet
    case rel => exact ⟨rfl, rfl, HI.out.1, HI.out.2⟩
  case rest =>
  obtain ⟨rfl, rfl, hi5, hr5⟩ := hcut
  have HI5 := Lib.hid hi5
  have HR5 := Lib.hid hr5
  obtain ⟨G, hG⟩ : ∃ G, G = w.heap.size + 1 + 1 := ⟨_, rfl⟩
  rw [← hG] at HI5 HR5
  have hGg : G ≠ g := by omega
  have hGl : w.heap.size + 2 ≤ G := by omega
  clear hmk hi5 hr5 hG hl1
  go_wp2
  go_loopg [25] (ax) (fun gk iv W => ∃ k : Nat, k ≤ ax ∧ gk = ax - k ∧ iv = .int .i64 k ∧ Item 90 [.slice none 0 0] w W [.slice (some ⟨G, 0, none⟩) ax ax] ∧ RowsA G ax k r W)
  case atStart => exact ⟨0, Nat.zero_le _, rfl, rfl, HI5.out, HR5.out⟩
  case round =>
    obtain ⟨k, hk, hgk, rfl, hi, hrw⟩ := hrel
    have HK := Lib.hid hgk
    have HI := Lib.hid hi
    have HRW := Lib.hid hrw
    clear hgk hi hrw
    obtain ⟨m3, _, _⟩ := HI.out.cell (i := 0) (v := .slice (some ⟨G, 0, none⟩) ax ax) rfl
    by_cases hlt : k < ax
    · obtain ⟨t, ht⟩ : ∃ t, r[k]? = some t := ⟨_, List.getElem?_eq_getElem (by have := HL.out; omega)⟩
      obtain ⟨cur, hcur, hcl, hcv⟩ := HRW.out.row
      obtain ⟨p, hp⟩ : ∃ p : Nat, p = 6 * k := ⟨_, rfl⟩
      have hGs : G < wr.heap.size := (Array.getElem?_eq_some_iff.1 hcur).1
      have hnum := axNums_at r k t ht
      have hrd : ∀ j x, (shorts [t.a, t.b, t.c])[j]? = some x → wr.drew.cell? ⟨g, off + p + j, none⟩ = some (.int .u8 (x : Nat)) := by
        intro j x hj
        have hb := HI.out.below
        have key : ∀ (q : Nat) (y : Int), (axNums r)[k * 3 + q]? = some y → wr.drew.cell? ⟨g, off + p + 2 * q, none⟩ = some (.int .u8 ((y / 256 % 256).toNat : Nat)) ∧ wr.drew.cell? ⟨g, off + p + 2 * q + 1, none⟩ = some (.int .u8 ((y % 256).toNat : Nat)) := by
          intro q y hy
          have h5 := HR.out.two hy
          rw [show off + 2 * (k * 3 + q) = off + p + 2 * q by omega] at h5
          exact ⟨by rw [← h5.1]; exact hb.cell hg, by rw [← h5.2]; exact hb.cell hg⟩
        have k0 := key 0 t.a hnum.1
        have k1 := key 1 t.b hnum.2.1
        have k2 := key 2 t.c hnum.2.2
        match j, hj with
        | 0, hj | 1, hj | 2, hj | 3, hj | 4, hj | 5, hj =>
          simp [shorts, two] at hj
          subst hj
          first
            | exact k0.1
            | exact k0.2
            | exact k1.1
            | exact k1.2
            | exact k2.1
            | exact k2.2
        | j + 6, hj => simp [shorts, two] at hj
      have hM := must_any G (k * 3) g (off + p) (N - p) (cap - p) t cur wr.drew (by omega) (by omega) (by omega) hGs hGg (HOK.out t (List.mem_of_getElem? ht)) hrd (by omega) hcur
      have HM := Lib.hid hM
      have HC := Lib.hid (And.intro hcl hcv)
      have HT := Lib.hid ht
      have k0 : (k : Int) * 6 = p := by omega
      have k0' : 6 * (k : Int) = p := by omega
      have k2 : IntKind.i64.wrap (p : Int) = p := IntWalk.i64_in _ (by omega)
      have k3 : (p : Int) ≤ N := by omega
      have k4 : ¬ cap = p := by omega
      have k5 : (k : Int) < ax := by omega
      have k6 : p ≤ N := by omega
      clear hcur hcl hcv hM hp hrd hnum ht
      go_upto_region 10 with fail
      go_still_tail 8, (by kernel_rfl)
      go_wp2_with fail
      refine HM.out.mono ?_
      rintro e w1 ⟨rfl, hpa⟩
      have hI : Item 90 [.slice none 0 0] w w1 [.slice (some ⟨G, 0, none⟩) ax ax] := by
        have h1 := HI.out
        have hsz := h1.size
        exact ⟨(hpa.kept.block _ (by show w.heap.size < wr.heap.size; omega) (by omega)).trans h1.row0, (hpa.kept.block _ (by show w.heap.size + 1 < wr.heap.size; omega) (by omega)).trans h1.row, Nat.le_trans hsz hpa.kept.size, Kept.below h1.below.drew hpa.kept (by show w.heap.size ≤ wr.heap.size; omega) (fun q hq => by omega)⟩
      have hRW2 : RowsA G ax (k + 1) r w1 := by
        obtain ⟨hcl, hcv⟩ := HC.out
        refine ⟨_, hpa.row, by rw [over_len]; exact hcl, fun j y i hj hy hi3 => ?_⟩
        rw [over_at _ _ _ _ (by omega)]
        by_cases hj2 : j < k
        · rw [if_neg (by omega)]; exact hcv j y i hj2 hy hi3
        · obtain rfl : j = k := by omega
          rw [if_pos (by omega), Nat.add_sub_cancel_left]
          have := HT.out
          rw [hy] at this
          rw [Option.some.inj this]
      have HI2' := Lib.hid hI
      have HR2' := Lib.hid hRW2
      clear hpa hI hRW2 m3
      go_wp2
      go_roundg (ax - (k + 1))
      case measure => have := HK.out; omega
      case rel => exact ⟨k + 1, by omega, rfl, by go_num, HI2'.out, HR2'.out⟩
    · have hkn : k = ax := by omega
      have HKN := Lib.hid hkn
      have r0 : wr.cell? ⟨w.heap.size, 0, none⟩ = some (.slice none 0 0) := by rw [cell_in HI.out.row0]; rfl
      have t0 : wr.frozen? ⟨w.heap.size, 0, none⟩ = false := frozen_in HI.out.row0
      have hRES : ∀ a, RegP ax r w (.returned (.tuple #[.agg #[.slice (some ⟨G, 0, none⟩) ax ax], .int .i64 (6 * (ax : Int)), .nilIface])) (wr.setCell ⟨w.heap.size, 0, none⟩ a) := by
        intro a
        obtain ⟨cur, hcur, hcl, hcv⟩ := HRW.out.row
        refine ⟨G, rfl, by omega, by simpa using (Array.getElem?_eq_some_iff.1 hcur).1, fun j t i ht hi3 => ?_, ?_⟩
        · have hjl := (List.getElem?_eq_some_iff.1 ht).1
          have hne : G ≠ w.heap.size := by omega
          rw [World.cell?_of_block (w := wr) (by rw [Below.heap_setCell _ _ _ _ hne]), cell_in hcur]
          simpa using hcv j t i (by have := HL.out; have := HKN.out; omega) ht hi3
        · exact HI.out.below.setCell (Nat.le_refl _) _
      rw [k6] at hRES
      have HRES := Lib.hid hRES
      have hrow : ∀ a, (wr.setCell ⟨w.heap.size, 0, none⟩ a).heap[w.heap.size]? = some (.cells #[a] 90 (0, 0)) := fun a => by
        have h1 := set_row (j := 0) (x := a) HI.out.row0
        simpa using h1
      have HROW := Lib.hid hrow
      clear hRES hrow hkn
      go_wp2
      (try simp only [Exit.inBlock, Exit.then])
      refine bodyPost_ret (results_3 rfl _ _ _ ⟨w.heap.size, 0, none⟩ _ rfl (run_loadVar_row _ _ _ 90 _ _ _ (HROW.out _) Try.underlying90 rfl (by kernel_rfl))) rfl ?_
      exact HRES.out _
end Go.Proofs.Ytdknpamegphjlaa.Sd
