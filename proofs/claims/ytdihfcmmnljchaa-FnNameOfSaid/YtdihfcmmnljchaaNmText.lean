/- Bytes decoded as UTF-16, walked. -/
import Derived.Test.YtdihfcmmnljchaaNmMac
import Derived.Test.YtdihfcmmnljchaaNmDec
namespace Go.Proofs.Ytdihfcmmnljchaa.Nm
open Go Go.RowKit

set_option maxRecDepth 100000 in
theorem decodes_any (g n : Nat) (rs : List Nat) (w : World) (hn : (utf16 rs).length = n) (hn2 : n ≤ 100000) (hrl : rs.length ≤ 1000) (hrs : ∀ r ∈ rs, Val r) (h131 : ∀ r ∈ rs, r < 1114112) (hg : g < w.heap.size) (h : ∀ j x, (utf16 rs)[j]? = some x → w.cell? ⟨g, j, none⟩ = some (.int .u16 (x : Nat))) :
    Calls Try.prog 28 #[.slice (some ⟨g, 0, none⟩) n n] w fun e w' => ∃ v, e = .returned v ∧ w'.ownsRow w.heap.size 21 1 v rs.length (runeCells rs) ∧ Below w.heap.size w w' := by
  obtain ⟨i0, hi, hz0, hz1, hz2⟩ := info_parts info21
  have hmk : ∀ u : World, (Instr.makeSlice 81 (.int .i64 0) (.int .i64 64)).run Try.prog u = .ok (.slice (some ⟨u.heap.size, 0, none⟩) 0 64) (u.alloc (.cells (madeCells #[.int .i32 0] 64) 21)) := fun u => by
    have := run_make u (P := Try.prog) 81 21 i0 (.int .i32 0) Try.underlying81 hi hz0 .i64 .i64 0 64 (by omega) (by omega) (by rw [hz2]; omega) (by omega)
    simpa [hz1, Value.cells] using this
  obtain ⟨W1, hW1⟩ : ∃ W1, W1 = w.alloc (.cells (madeCells #[.int .i32 0] 64) 21) := ⟨_, rfl⟩
  have hown : W1.ownsRow w.heap.size 21 1 (.slice (some ⟨w.heap.size, 0, none⟩) 0 64) 0 [] := by
    subst hW1
    exact World.ownsRow_made w _ 64 (Nat.le_refl _) (by unfold maxLen; omega) (by rw [size_madeCells])
  have hc : Halfs W1 (some ⟨g, 0, none⟩) (utf16 rs) := fun _ => ⟨g, rfl, fun j x hj => by
    subst hW1
    rw [World.cell?_alloc_lt _ _ _ hg]
    exact h j x hj⟩
  have hb : Below w.heap.size w W1 := by subst hW1; exact (Below.refl _ _).alloc (Nat.le_refl _) _
  have hC := Lib.hid (decode_any w.heap.size n n (some ⟨g, 0, none⟩) rs (.slice (some ⟨w.heap.size, 0, none⟩) 0 64) W1 hn hn2 hrl hrs h131 hc hown hb.size (fun g' e => by injection e with e; injection e with e _ _; omega))
  have HB := Lib.hid hb
  rw [hW1] at hC HB
  clear hn hrs h131 h hown hc hb hW1 hi hz0 hz1 hz2
  go_enter Try.func28, Try.ntmps28
  go_wp2_with fail
  refine hC.out.mono ?_
  rintro e w1 ⟨v, rfl, ho, hb1⟩
  have HO := Lib.hid ho
  have HB1 := Lib.hid hb1
  clear ho hb1
  go_wp2
  go_ret
  exact ⟨v, rfl, HO.out, HB.out.trans HB1.out⟩

theorem two_at (l : List Nat) (j x : Nat) (hx : l[j]? = some x) : (bytes16 l)[2 * j]? = some (x / 256 % 256) ∧ (bytes16 l)[2 * j + 1]? = some (x % 256) := by
  induction l generalizing j with
  | nil => simp at hx
  | cons y l ih =>
    have e : bytes16 (y :: l) = y / 256 % 256 :: y % 256 :: bytes16 l := by simp [bytes16, two]
    rw [e]
    cases j with
    | zero => simp at hx; subst hx; exact ⟨rfl, rfl⟩
    | succ j =>
      have := ih j (by simpa using hx)
      rw [show 2 * (j + 1) = 2 * j + 1 + 1 by omega]
      simpa using this
theorem bytes16_len (l : List Nat) : (bytes16 l).length = 2 * l.length := by
  induction l with
  | nil => rfl
  | cons y l ih =>
    have e : bytes16 (y :: l) = y / 256 % 256 :: y % 256 :: bytes16 l := by simp [bytes16, two]
    rw [e]
    simp [ih]
    omega

set_option maxRecDepth 100000 in
set_option maxHeartbeats 2000000 in
theorem text16_any (g off m n cap : Nat) (rs : List Nat) (w : World) (hn : (utf16 rs).length = n) (hm : m = 2 * n) (hn2 : n ≤ 10000) (hmc : m ≤ cap) (hcap : cap ≤ 9223372036854775807) (hrl : rs.length ≤ 1000) (hrs : ∀ r ∈ rs, Val r) (h16 : ∀ x ∈ utf16 rs, x < 65536) (h131 : ∀ r ∈ rs, r < 1114112) (hg : g < w.heap.size)
    (h : ∀ j x, (bytes16 (utf16 rs))[j]? = some x → w.cell? ⟨g, off + j, none⟩ = some (.int .u8 (x : Nat))) :
    Calls Try.prog 24 #[.slice (some ⟨g, off, none⟩) m cap] w fun e w' => e = .returned (.string (str rs)) ∧ Below w.heap.size w w' := by
  have HN := Lib.hid hn
  have HR := Lib.hid hrs
  have HR2 := Lib.hid h131
  have H := Lib.hid h
  have H16 := Lib.hid h16
  have hq : (m : Int).tdiv 2 = n := by rw [Int.tdiv_eq_ediv_of_nonneg (by omega)]; omega
  have hq2 : (m : Int) / 2 = n := by omega
  have HM := Lib.hid hm
  clear hm
  clear hn hrs h131 h h16
  have hmk : ∀ u : World, (Instr.makeSlice 22 (.int .i64 n) (.int .i64 n)).run Try.prog u = .ok (.slice (some ⟨u.heap.size, 0, none⟩) n n) (u.alloc (.cells (madeCells #[.int .u16 0] n) 33)) := fun u => by
    obtain ⟨i0, hi, hz0, hz1, hz2⟩ := info_parts (show (Try.prog.info? 33).map (fun i => (i.zero, i.size, i.bytes)) = some (some (.int .u16 0), 1, 2) by kernel_rfl)
    have := run_make u (P := Try.prog) 22 33 i0 (.int .u16 0) Try.underlying22 hi hz0 .i64 .i64 n n (by omega) (Int.le_refl _) (by rw [hz2]; omega) (by omega)
    simpa [hz1, Value.cells] using this
  go_enter Try.func24, Try.ntmps24
  go_wp2
  clear hmk
  go_loopg [11] (n) (fun gk iv W => ∃ k : Nat, k ≤ n ∧ gk = n - k ∧ iv = .int .i64 k ∧ Setting w.heap.size 33 n k (fun r => .int .u16 (r : Nat)) (utf16 rs) w.heap.size w W)
  case atStart => exact ⟨0, Nat.zero_le _, rfl, rfl, Setting.start rfl⟩
  case round =>
    obtain ⟨k, hk, hgk, rfl, hs⟩ := hrel
    have HK := Lib.hid hgk
    have HS := Lib.hid hs
    clear hgk
    by_cases hlt : k < n
    · obtain ⟨x, hx⟩ : ∃ x, (utf16 rs)[k]? = some x := ⟨_, List.getElem?_eq_getElem (by have := HN.out; omega)⟩
      have hxl := H16.out x (List.mem_of_getElem? hx)
      obtain ⟨b0, b1⟩ := two_at _ _ _ hx
      have c0 : wr.cell? ⟨g, off + 2 * k, none⟩ = some (.int .u8 (x / 256 % 256 : Nat)) := by rw [← H.out _ _ b0]; exact hs.below.cell hg
      have c1 : wr.cell? ⟨g, off + 2 * k + 1, none⟩ = some (.int .u8 (x % 256 : Nat)) := by rw [← H.out _ _ b1]; exact hs.below.cell hg
      obtain ⟨⟨u, hu⟩, hf, hG⟩ := hs.cell hlt
      have hm := HM.out
      have hC := Lib.hid (half_any g (off + 2 * k) (m - 2 * k) (cap - 2 * k) (x / 256 % 256) (x % 256) wr.drew (by omega) (by omega) (by omega) c0 c1)
      rw [show x / 256 % 256 * 256 + x % 256 = x by omega] at hC
      have hsz := hs.below.size
      have HX := Lib.hid hx
      obtain ⟨p, hp⟩ : ∃ p : Nat, p = 2 * k := ⟨_, rfl⟩
      rw [← hp] at hC
      have k0 : 2 * (k : Int) = (p : Int) := by omega
      have k1 : (p : Int) ≤ m := by omega
      have k2 : ¬ cap = p := by omega
      have k4 : p ≤ m := by omega
      have k5 : (k : Int) < n := by omega
      have k6 : IntKind.i64.wrap (p : Int) = p := IntWalk.i64_in _ (by omega)
      clear hp hm
      clear hs hx c0 c1 b0 b1
      go_upto_region 5 with fail
      go_region_with (go_at_call 18; refine hC.out.mono ?_; rintro e w1 ⟨rfl, hb1⟩; have z0 := (hb1.cell (p := ⟨w.heap.size, k, none⟩) hG).trans hu; have z1 := (hb1.frozen (p := ⟨w.heap.size, k, none⟩) hG).trans hf)
      all_goals
        have HS2 := Lib.hid (HS.out.next HX.out hlt (Nat.le_refl _) ((Below.refl _ wr).drew.trans hb1) hG hsz)
        go_wp2
        go_roundg (n - (k + 1))
        case measure => have := HK.out; omega
        case rel => exact ⟨k + 1, by omega, rfl, by go_num, HS2.out⟩
    · have hkn : k = n := by omega
      have hc : ∀ j r, (utf16 rs)[j]? = some r → wr.cell? ⟨w.heap.size, j, none⟩ = some (.int .u16 (r : Nat)) := fun j r hj => by
        obtain ⟨cur, hr, hl, hcc⟩ := hs.row
        have hjl := (List.getElem?_eq_some_iff.1 hj).1
        rw [cell_in hr]
        simpa using hcc j r (by have := HN.out; omega) hj
      have hsz := hs.below.size
      have hlt2 : w.heap.size < wr.heap.size := by
        obtain ⟨cur, hr, hl, hcc⟩ := hs.row
        exact (Array.getElem?_eq_some_iff.1 hr).1
      have hC := Lib.hid (decodes_any w.heap.size n rs wr HN.out (by omega) hrl HR.out HR2.out hlt2 hc)
      clear hs hc
      go_wp2_with fail
      refine hC.out.mono ?_
      rintro e w1 ⟨v, rfl, ho, hb⟩
      have HO := Lib.hid ho
      have HB := Lib.hid hb
      have hconv : (convert 81 9 v).run Try.prog w1 = .ok (.string (str rs)) w1 := by
        by_cases h0 : rs.length = 0
        · obtain rfl : rs = [] := List.eq_nil_of_length_eq_zero h0
          rcases ho.2 with ⟨rfl, _⟩ | ⟨g', cap', cur, rfl, _⟩
          · exact run_convert_runes_nil (P := Try.prog) w1 81 9 21 0 0 Try.underlying81 (by kernel_rfl) (by kernel_rfl)
          · exact run_runes_str w1 g' 0 cap' [] rfl (by simp) (by simp)
        · obtain ⟨g', cap', cur, rfl, _, hr, h1, h2, h3, h4⟩ := Row.own_form ho (by omega)
          refine run_runes_str w1 g' rs.length cap' rs rfl HR.out (fun j r hj => ?_)
          have hjl := (List.getElem?_eq_some_iff.1 hj).1
          rw [ho.cellAt j (by omega)]
          simp [runeCells, hj]
      clear ho hb
      go_wp2
      go_ret
      exact ⟨rfl, HS.out.below.trans (HB.out.mono hsz)⟩
end Go.Proofs.Ytdihfcmmnljchaa.Nm
