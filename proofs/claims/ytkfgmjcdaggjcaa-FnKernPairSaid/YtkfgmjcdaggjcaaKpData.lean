/- The pairs of a subtable parsed, walked. -/
import Derived.Test.YtkfgmjcdaggjcaaKpMust
namespace Go.Proofs.Ytkfgmjcdaggjcaa.Kp
open Go Go.RowKit

def none5 : List Value := [.int .u16 0, .int .u16 0, .int .u16 0, .int .u16 0, .slice none 0 0]
/-- The result's variable as it was made, the item's with these cells. -/
structure Item (ty : TypeId) (z : List Value) (w W : World) (c : List Value) : Prop where
  row0 : W.heap[w.heap.size]? = some (.cells z.toArray ty (0, 0))
  row : W.heap[w.heap.size + 1]? = some (.cells c.toArray ty (0, 0))
  size : w.heap.size + 2 ≤ W.heap.size
  below : Below w.heap.size w W

section
variable {ty : TypeId} {z : List Value}
theorem Item.start (ty : TypeId) (z : List Value) (w : World) : Item ty z w ((w.alloc (.cells z.toArray ty)).alloc (.cells z.toArray ty)) z := by
  refine ⟨?_, ?_, ?_, ((Below.refl _ _).alloc (Nat.le_refl _) _).alloc (by simp) _⟩
  · rw [Below.heap_alloc _ _ _ (by simp)]; exact heap_alloc_new w _
  · have := heap_alloc_new (w.alloc (.cells z.toArray ty)) (.cells z.toArray ty)
    rwa [World.size_alloc] at this
  · simp
theorem Item.later {w W W1 : World} {c : List Value} (h : Item ty z w W c) (hb : Below W.heap.size W W1) : Item ty z w W1 c := by
  have hs := h.size
  exact ⟨(hb.block _ (by omega)).trans h.row0, (hb.block _ (by omega)).trans h.row, Nat.le_trans hs hb.size, h.below.trans (hb.mono (by omega))⟩
theorem Item.set {w W : World} {c : List Value} (h : Item ty z w W c) (i : Nat) (v : Value) : Item ty z w (W.setCell ⟨w.heap.size + 1, i, none⟩ v) (c.set i v) := by
  have hs := h.size
  refine ⟨?_, ?_, by rw [World.size_setCell]; exact hs, h.below.setCell (by show w.heap.size ≤ w.heap.size + 1; omega) _⟩
  · rw [Below.heap_setCell _ _ _ _ (by show w.heap.size ≠ w.heap.size + 1; omega)]; exact h.row0
  · rw [set_row h.row]; simp
theorem Item.cell {w W : World} {c : List Value} (h : Item ty z w W c) {i : Nat} {v : Value} (hi : c[i]? = some v) : W.cell? ⟨w.heap.size + 1, i, none⟩ = some v ∧ W.frozen? ⟨w.heap.size + 1, i, none⟩ = false ∧ w.heap.size + 1 < W.heap.size := by
  refine ⟨by rw [cell_in h.row]; simpa using hi, frozen_in h.row, by have := h.size; omega⟩
end

/-- The first records parsed. -/
structure Rows (G n k : Nat) (l : List Tri) (W : World) : Prop where
  row : ∃ cur : List Value, W.heap[G]? = some (.cells cur.toArray 137 (0, 0)) ∧ cur.length = n * 3 ∧ ∀ j t i, j < k → l[j]? = some t → i < 3 → cur[j * 3 + i]? = some (triVal t i)

theorem two_at (l : List Int) (j : Nat) (x : Int) (hx : l[j]? = some x) : (shorts l)[2 * j]? = some (x / 256 % 256).toNat ∧ (shorts l)[2 * j + 1]? = some (x % 256).toNat := by
  induction l generalizing j with
  | nil => simp at hx
  | cons y l ih =>
    have e : shorts (y :: l) = (y / 256 % 256).toNat :: (y % 256).toNat :: shorts l := by simp [shorts, two]
    rw [e]
    cases j with
    | zero => simp at hx; subst hx; exact ⟨rfl, rfl⟩
    | succ j =>
      have := ih j (by simpa using hx)
      rw [show 2 * (j + 1) = 2 * j + 1 + 1 by omega]
      simpa using this
theorem nums_at (l : List Tri) : ∀ (j : Nat) (t : Tri), l[j]? = some t → (nums l)[j * 3]? = some (t.a : Int) ∧ (nums l)[j * 3 + 1]? = some (t.b : Int) ∧ (nums l)[j * 3 + 2]? = some t.v := by
  induction l with
  | nil => intro j t h; simp at h
  | cons y l ih =>
    intro j t h
    have e : nums (y :: l) = (y.a : Int) :: (y.b : Int) :: y.v :: nums l := by simp [nums]
    rw [e]
    cases j with
    | zero => simp at h; subst h; exact ⟨rfl, rfl, rfl⟩
    | succ j =>
      have := ih j t (by simpa using h)
      rw [show (j + 1) * 3 = j * 3 + 1 + 1 + 1 by omega]
      simpa using this

/-- The bytes at a place are these numbers'. -/
def Reads (w : World) (g off : Nat) (vs : List Int) : Prop := ∀ j x, (shorts vs)[j]? = some x → w.cell? ⟨g, off + j, none⟩ = some (.int .u8 (x : Nat))
theorem Reads.two {w : World} {g off : Nat} {vs : List Int} (h : Reads w g off vs) {j : Nat} {x : Int} (hx : vs[j]? = some x) : w.cell? ⟨g, off + 2 * j, none⟩ = some (.int .u8 ((x / 256 % 256).toNat : Nat)) ∧ w.cell? ⟨g, off + 2 * j + 1, none⟩ = some (.int .u8 ((x % 256).toNat : Nat)) := by
  obtain ⟨h1, h2⟩ := two_at vs j x hx
  exact ⟨h _ _ h1, by have := h _ _ h2; rwa [← Nat.add_assoc] at this⟩

def Parsed (n : Nat) (l : List Tri) (w : World) (e : Ending) (w' : World) : Prop :=
  ∃ (G h1 h2 h3 : Nat) (i : Int), e = .returned (.tuple #[.agg #[.int .u16 (n : Nat), .int .u16 (h1 : Nat), .int .u16 (h2 : Nat), .int .u16 (h3 : Nat), .slice (some ⟨G, 0, none⟩) n n], .int .i64 i, .nilIface]) ∧ G < w'.heap.size ∧ (∀ j t i, l[j]? = some t → i < 3 → w'.cell? ⟨G, j * 3 + i, none⟩ = some (triVal t i)) ∧ Below w.heap.size w w'

theorem info137 : (Try.prog.info? 137).map (fun i => (i.zero, i.size, i.bytes)) = some (some (.agg #[.int .u16 0, .int .u16 0, .int .i16 0]), 3, 6) := by kernel_rfl

theorem results_3 {fn : Func} {t u v : Tmp} {ty : TypeId} (h : fn.results = #[.cell t ty, .tmp u, .tmp v]) (tmps : Array Value) (P : Program) (w : World) (ad : Addr) (x : Value) (ht : tmps.getD t undef = .pointer (some ad)) (hl : (loadVar ty ad).run P w = .ok x w) :
    (results fn tmps).run P w = .ok (.tuple #[x, tmps.getD u undef, tmps.getD v undef]) w := by
  have ht' : tmps[t]?.getD undef = .pointer (some ad) := by simpa using ht
  simp [results, h, ht', asAddr, hl]

set_option maxRecDepth 1000000 in
set_option maxHeartbeats 4000000 in
theorem parse0_any (g off N cap n : Nat) (l : List Tri) (s1 s2 s3 : Int) (w : World) (hl : l.length = n) (hN : N = 8 + 6 * n) (h0 : 0 < n) (hn60 : n ≤ 60) (hcap : N ≤ cap) (hcm : cap ≤ 9223372036854775807) (hg : g < w.heap.size) (hok : ∀ x ∈ l, Tri.Ok x) (hr : Reads w g off ([(n : Int), s1, s2, s3] ++ nums l)) :
    Calls Try.prog 25 #[.slice (some ⟨g, off, none⟩) N cap] w (Parsed n l w) := by
  have HL := Lib.hid hl
  have HN := Lib.hid hN
  have HOK := Lib.hid hok
  have HR := Lib.hid hr
  have hN8 : 8 ≤ N := by omega
  have hw6 : IntKind.i64.wrap ((n : Int) * 6) = (n : Int) * 6 := IntWalk.i64_in _ (by omega)
  have hw8 : IntKind.i64.wrap (8 + (n : Int) * 6) = 8 + (n : Int) * 6 := IntWalk.i64_in _ (by omega)
  have hl1 : decide ((N : Int) < 8 + (n : Int) * 6) = false := decide_eq_false (by omega)
  have hl2 : decide ((N : Int) < 8) = false := decide_eq_false (by omega)
  have h7 : (7 : Int) < N := by omega
  have c7 : w.cell? ⟨g, off + 7, none⟩ = some (.int .u8 ((s3 % 256).toNat : Nat)) := (hr.two (j := 3) rfl).2
  have HS := Lib.hid (Item.start 92 none5 w)
  have q0 : (0 : Int) ≤ N := by omega
  have q2 : (2 : Int) ≤ N := by omega
  have q4 : (4 : Int) ≤ N := by omega
  have q6 : (6 : Int) ≤ N := by omega
  have z2 : ¬ cap = 2 := by omega
  have z4 : ¬ cap = 4 := by omega
  have z6 : ¬ cap = 6 := by omega
  clear hl hN hok hr
  go_enter Try.func25, Try.ntmps25
  go_upto_region 7 with fail
  go_cut [] (fun W => Item 92 none5 w W ([.int .u16 (n : Nat), .int .u16 0, .int .u16 0, .int .u16 0, .slice none 0 0]))
  case first =>
    obtain ⟨W0, hW0⟩ : ∃ W0, W0 = (w.alloc (.cells none5.toArray 92)).alloc (.cells none5.toArray 92) := ⟨_, rfl⟩
    have HS1 := HS
    rw [← hW0] at HS1
    obtain ⟨u0, uf, us⟩ := HS1.out.cell (i := 0) (v := .int .u16 0) rfl
    have k := HR.out.two (j := 0) (x := (n : Int)) rfl
    have k0 : W0.cell? ⟨g, off, none⟩ = some (.int .u8 (((n : Int) / 256 % 256).toNat : Nat)) := by rw [← k.1]; exact HS1.out.below.cell hg
    have k1 : W0.cell? ⟨g, off + 1, none⟩ = some (.int .u8 (((n : Int) % 256).toNat : Nat)) := by rw [← k.2]; exact HS1.out.below.cell hg
    have hC := Lib.hid (half_any g off N cap _ _ W0.drew (by omega) (by omega) (by omega) k0 k1)
    rw [show ((n : Int) / 256 % 256).toNat * 256 + ((n : Int) % 256).toNat = n by omega] at hC
    change Code.wp _ _ _ _ ((w.alloc (.cells none5.toArray 92)).alloc (.cells none5.toArray 92))
    rw [← hW0]
    clear c7 hW0 k k0 k1
    go_region_with (go_at_call 19; refine hC.out.mono ?_; rintro e w1 ⟨rfl, hb1⟩; have z0 := (hb1.cell (p := ⟨w.heap.size + 1, 0, none⟩) us).trans u0; have z1 := (hb1.frozen (p := ⟨w.heap.size + 1, 0, none⟩) us).trans uf)
    all_goals
      go_wp2_with fail
      go_meet
    all_goals exact (HS1.out.later ((Below.refl _ _).drew.trans hb1)).set 0 _
  case rest =>
  have HI1 := Lib.hid hcut
  obtain ⟨W1, rfl⟩ : ∃ W : World, W = wc := ⟨_, rfl⟩
  clear hcut
  obtain ⟨h1, hh1⟩ : ∃ h1, h1 = (s1 / 256 % 256).toNat * 256 + (s1 % 256).toNat := ⟨_, rfl⟩
  obtain ⟨h2, hh2⟩ : ∃ h2, h2 = (s2 / 256 % 256).toNat * 256 + (s2 % 256).toNat := ⟨_, rfl⟩
  obtain ⟨h3, hh3⟩ : ∃ h3, h3 = (s3 / 256 % 256).toNat * 256 + (s3 % 256).toNat := ⟨_, rfl⟩
  have HH := Lib.hid (And.intro hh1 (And.intro hh2 hh3))
  clear hh1 hh2 hh3
  go_upto_region 8 with fail
  go_cut [] (fun W => Item 92 none5 w W ([.int .u16 (n : Nat), .int .u16 (h1 : Nat), .int .u16 0, .int .u16 0, .slice none 0 0]))
  case first =>
    obtain ⟨u0, uf, us⟩ := HI1.out.cell (i := 1) (v := .int .u16 0) rfl
    have k := HR.out.two (j := 1) (x := s1) rfl
    have k0 : W1.cell? ⟨g, off + 2, none⟩ = some (.int .u8 ((s1 / 256 % 256).toNat : Nat)) := by rw [← k.1]; exact HI1.out.below.cell hg
    have k1 : W1.cell? ⟨g, off + 2 + 1, none⟩ = some (.int .u8 ((s1 % 256).toNat : Nat)) := by rw [← k.2]; exact HI1.out.below.cell hg
    have hC := Lib.hid (half_any g (off + 2) (N - 2) (cap - 2) _ _ W1.drew (by omega) (by omega) (by omega) k0 k1)
    rw [← HH.out.1] at hC
    clear c7 k k0 k1
    go_region_with (go_at_call 19; refine hC.out.mono ?_; rintro e w1 ⟨rfl, hb1⟩; have z0 := (hb1.cell (p := ⟨w.heap.size + 1, 1, none⟩) us).trans u0; have z1 := (hb1.frozen (p := ⟨w.heap.size + 1, 1, none⟩) us).trans uf)
    all_goals
      go_wp2_with fail
      go_meet
    all_goals exact (HI1.out.later ((Below.refl _ _).drew.trans hb1)).set 1 _
  case rest =>
  have HI2 := Lib.hid hcut
  obtain ⟨W2, rfl⟩ : ∃ W : World, W = wc := ⟨_, rfl⟩
  clear hcut
  go_upto_region 9 with fail
  go_cut [] (fun W => Item 92 none5 w W ([.int .u16 (n : Nat), .int .u16 (h1 : Nat), .int .u16 (h2 : Nat), .int .u16 0, .slice none 0 0]))
  case first =>
    obtain ⟨u0, uf, us⟩ := HI2.out.cell (i := 2) (v := .int .u16 0) rfl
    have k := HR.out.two (j := 2) (x := s2) rfl
    have k0 : W2.cell? ⟨g, off + 4, none⟩ = some (.int .u8 ((s2 / 256 % 256).toNat : Nat)) := by rw [← k.1]; exact HI2.out.below.cell hg
    have k1 : W2.cell? ⟨g, off + 4 + 1, none⟩ = some (.int .u8 ((s2 % 256).toNat : Nat)) := by rw [← k.2]; exact HI2.out.below.cell hg
    have hC := Lib.hid (half_any g (off + 4) (N - 4) (cap - 4) _ _ W2.drew (by omega) (by omega) (by omega) k0 k1)
    rw [← HH.out.2.1] at hC
    clear c7 k k0 k1
    go_region_with (go_at_call 19; refine hC.out.mono ?_; rintro e w1 ⟨rfl, hb1⟩; have z0 := (hb1.cell (p := ⟨w.heap.size + 1, 2, none⟩) us).trans u0; have z1 := (hb1.frozen (p := ⟨w.heap.size + 1, 2, none⟩) us).trans uf)
    all_goals
      go_wp2_with fail
      go_meet
    all_goals exact (HI2.out.later ((Below.refl _ _).drew.trans hb1)).set 2 _
  case rest =>
  have HI3 := Lib.hid hcut
  obtain ⟨W3, rfl⟩ : ∃ W : World, W = wc := ⟨_, rfl⟩
  clear hcut
  go_upto_region 10 with fail
  go_cut [] (fun W => Item 92 none5 w W ([.int .u16 (n : Nat), .int .u16 (h1 : Nat), .int .u16 (h2 : Nat), .int .u16 (h3 : Nat), .slice none 0 0]))
  case first =>
    obtain ⟨u0, uf, us⟩ := HI3.out.cell (i := 3) (v := .int .u16 0) rfl
    have k := HR.out.two (j := 3) (x := s3) rfl
    have k0 : W3.cell? ⟨g, off + 6, none⟩ = some (.int .u8 ((s3 / 256 % 256).toNat : Nat)) := by rw [← k.1]; exact HI3.out.below.cell hg
    have k1 : W3.cell? ⟨g, off + 6 + 1, none⟩ = some (.int .u8 ((s3 % 256).toNat : Nat)) := by rw [← k.2]; exact HI3.out.below.cell hg
    have hC := Lib.hid (half_any g (off + 6) (N - 6) (cap - 6) _ _ W3.drew (by omega) (by omega) (by omega) k0 k1)
    rw [← HH.out.2.2] at hC
    clear c7 k k0 k1
    go_region_with (go_at_call 19; refine hC.out.mono ?_; rintro e w1 ⟨rfl, hb1⟩; have z0 := (hb1.cell (p := ⟨w.heap.size + 1, 3, none⟩) us).trans u0; have z1 := (hb1.frozen (p := ⟨w.heap.size + 1, 3, none⟩) us).trans uf)
    all_goals
      go_wp2_with fail
      go_meet
    all_goals exact (HI3.out.later ((Below.refl _ _).drew.trans hb1)).set 3 _
  case rest =>
  have HI4 := Lib.hid hcut
  obtain ⟨W4, rfl⟩ : ∃ W : World, W = wc := ⟨_, rfl⟩
  clear hcut c7
  obtain ⟨m1, _, _⟩ := HI4.out.cell (i := 0) (v := .int .u16 (n : Nat)) rfl
  obtain ⟨m3, mf, us⟩ := HI4.out.cell (i := 4) (v := .slice none 0 0) rfl
  have hmk : ∀ u : World, (Instr.makeSlice 90 (.int .i64 n) (.int .i64 n)).run Try.prog u = .ok (.slice (some ⟨u.heap.size, 0, none⟩) n n) (u.alloc (.cells (madeCells #[.int .u16 0, .int .u16 0, .int .i16 0] (n * 3)) 137)) := fun u => by
    obtain ⟨i0, hi, hz0, hz1, hz2⟩ := info_parts info137
    have := run_make u (P := Try.prog) 90 137 i0 _ Try.underlying90 hi hz0 .i64 .i64 n n (by omega) (Int.le_refl _) (by rw [hz2]; omega) (by omega)
    simpa [hz1, Value.cells] using this
  go_upto_region 16 with fail
  go_cut [] (fun W => ∃ G : Nat, w.heap.size + 2 ≤ G ∧ Item 92 none5 w W ([.int .u16 (n : Nat), .int .u16 (h1 : Nat), .int .u16 (h2 : Nat), .int .u16 (h3 : Nat), .slice (some ⟨G, 0, none⟩) n n]) ∧ Rows G n 0 l W)
  case first =>
    have hR := (HI4.out.set 4 (.slice (some ⟨W4.heap.size, 0, none⟩) n n)).later ((Below.refl _ _).alloc (Nat.le_refl _) (.cells (madeCells #[.int .u16 0, .int .u16 0, .int .i16 0] (n * 3)) 137))
    have HRR := Lib.hid hR
    have hsz := HI4.out.size
    clear hR
    go_wp2_with fail
    go_meet
    refine ⟨W4.heap.size, hsz, HRR.out, ⟨(madeCells #[.int .u16 0, .int .u16 0, .int .i16 0] (n * 3)).toList, ?_, ?_, fun j t i hj => absurd hj (by omega)⟩⟩
    · have := heap_alloc_new (W4.setCell ⟨w.heap.size + 1, 4, none⟩ (.slice (some ⟨W4.heap.size, 0, none⟩) n n)) (.cells (madeCells #[.int .u16 0, .int .u16 0, .int .i16 0] (n * 3)) 137)
      rw [World.size_setCell] at this
      simpa using this
    · simpa using size_madeCells _ _
  case rest =>
  obtain ⟨G, hG, hi5, hr5⟩ := hcut
  have HI5 := Lib.hid hi5
  have HR5 := Lib.hid hr5
  obtain ⟨W5, rfl⟩ : ∃ W : World, W = wc := ⟨_, rfl⟩
  clear m1 m3 mf us hmk hi5 hr5 hl1 hl2
  obtain ⟨m3, _, _⟩ := HI5.out.cell (i := 4) (v := .slice (some ⟨G, 0, none⟩) n n) rfl
  have hGg : G ≠ g := by omega
  go_wp2
  clear m3
  go_loopg [60] (n) (fun gk iv W => ∃ k : Nat, k ≤ n ∧ gk = n - k ∧ iv = .int .i64 k ∧ Item 92 none5 w W ([.int .u16 (n : Nat), .int .u16 (h1 : Nat), .int .u16 (h2 : Nat), .int .u16 (h3 : Nat), .slice (some ⟨G, 0, none⟩) n n]) ∧ Rows G n k l W)
  case atStart => exact ⟨0, Nat.zero_le _, rfl, rfl, HI5.out, HR5.out⟩
  case round =>
    obtain ⟨k, hk, hgk, rfl, hi, hrw⟩ := hrel
    have HK := Lib.hid hgk
    have HI := Lib.hid hi
    have HRW := Lib.hid hrw
    clear hgk hi hrw
    obtain ⟨m3, _, _⟩ := HI.out.cell (i := 4) (v := .slice (some ⟨G, 0, none⟩) n n) rfl
    by_cases hlt : k < n
    · obtain ⟨t, ht⟩ : ∃ t, l[k]? = some t := ⟨_, List.getElem?_eq_getElem (by have := HL.out; omega)⟩
      obtain ⟨cur, hcur, hcl, hcv⟩ := HRW.out.row
      obtain ⟨p, hp⟩ : ∃ p : Nat, p = 8 + 6 * k := ⟨_, rfl⟩
      have hGs : G < wr.heap.size := (Array.getElem?_eq_some_iff.1 hcur).1
      have hnum := nums_at l k t ht
      have hrd : ∀ j x, (shorts [(t.a : Int), (t.b : Int), t.v])[j]? = some x → wr.drew.cell? ⟨g, off + p + j, none⟩ = some (.int .u8 (x : Nat)) := by
        intro j x hj
        have hb := HI.out.below
        have key : ∀ (q : Nat) (y : Int), ([(n : Int), s1, s2, s3] ++ nums l)[4 + (k * 3 + q)]? = some y → wr.drew.cell? ⟨g, off + p + 2 * q, none⟩ = some (.int .u8 ((y / 256 % 256).toNat : Nat)) ∧ wr.drew.cell? ⟨g, off + p + 2 * q + 1, none⟩ = some (.int .u8 ((y % 256).toNat : Nat)) := by
          intro q y hy
          have h5 := HR.out.two hy
          rw [show off + 2 * (4 + (k * 3 + q)) = off + p + 2 * q by omega] at h5
          exact ⟨by rw [← h5.1]; exact hb.cell hg, by rw [← h5.2]; exact hb.cell hg⟩
        have e4 : ∀ q : Nat, ([(n : Int), s1, s2, s3] ++ nums l)[4 + (k * 3 + q)]? = (nums l)[k * 3 + q]? := fun q => by
          rw [List.getElem?_append_right (by simp)]
          simp
        have k0 := key 0 t.a (by rw [e4]; exact hnum.1)
        have k1 := key 1 t.b (by rw [e4]; exact hnum.2.1)
        have k2 := key 2 t.v (by rw [e4]; exact hnum.2.2)
        match j, hj with
        | 0, hj | 1, hj | 2, hj | 3, hj | 4, hj | 5, hj =>
          simp [shorts, two] at hj
          subst hj
          first
            | exact k0.1
            | exact k0.2
            | exact k1.1
            | exact k1.2
            | exact k2.1
            | exact k2.2
        | j + 6, hj => simp [shorts, two] at hj
      have hM := must_any G (k * 3) g (off + p) (N - p) (cap - p) t cur wr.drew (by have := HN.out; omega) (by omega) (by omega) hGs hGg (HOK.out t (List.mem_of_getElem? ht)) hrd (by omega) hcur
      have HM := Lib.hid hM
      have HC := Lib.hid (And.intro hcl hcv)
      have HT := Lib.hid ht
      have k0 : IntKind.i64.wrap ((k : Int) * 6) = (k : Int) * 6 := IntWalk.i64_in _ (by omega)
      have k1 : 8 + (k : Int) * 6 = (p : Int) := by omega
      have k2 : IntKind.i64.wrap (p : Int) = p := IntWalk.i64_in _ (by omega)
      have k3 : (p : Int) ≤ N := by have := HN.out; omega
      have k4 : ¬ cap = p := by have := HN.out; omega
      have k5 : (k : Int) < n := by omega
      have k6 : p ≤ N := by have := HN.out; omega
      clear hcur hcl hcv hM hp hrd hnum ht
      go_upto_region 20 with fail
      go_still_tail 9, (by kernel_rfl)
      go_wp2_with fail
      refine HM.out.mono ?_
      rintro e w1 ⟨rfl, hpa⟩
      have hI : Item 92 none5 w w1 ([.int .u16 (n : Nat), .int .u16 (h1 : Nat), .int .u16 (h2 : Nat), .int .u16 (h3 : Nat), .slice (some ⟨G, 0, none⟩) n n]) := by
        have h1 := HI.out
        have hsz := h1.size
        exact ⟨(hpa.kept.block _ (by show w.heap.size < wr.heap.size; omega) (by omega)).trans h1.row0, (hpa.kept.block _ (by show w.heap.size + 1 < wr.heap.size; omega) (by omega)).trans h1.row, Nat.le_trans hsz hpa.kept.size, Kept.below h1.below.drew hpa.kept (by show w.heap.size ≤ wr.heap.size; omega) (fun q hq => by omega)⟩
      have hRW2 : Rows G n (k + 1) l w1 := by
        obtain ⟨hcl, hcv⟩ := HC.out
        refine ⟨_, hpa.row, by rw [over_len]; exact hcl, fun j y i hj hy hi3 => ?_⟩
        rw [over_at _ _ _ _ (by omega)]
        by_cases hj2 : j < k
        · rw [if_neg (by omega)]; exact hcv j y i hj2 hy hi3
        · obtain rfl : j = k := by omega
          rw [if_pos (by omega), Nat.add_sub_cancel_left]
          have := HT.out
          rw [hy] at this
          rw [Option.some.inj this]
      have HI2' := Lib.hid hI
      have HR2' := Lib.hid hRW2
      clear hpa hI hRW2 m3
      go_wp2
      go_roundg (n - (k + 1))
      case measure => have := HK.out; omega
      case rel => exact ⟨k + 1, by omega, rfl, by go_num, HI2'.out, HR2'.out⟩
    · have hkn : k = n := by omega
      have HKN := Lib.hid hkn
      obtain ⟨e0, _, _⟩ := HI.out.cell (i := 0) (v := .int .u16 (n : Nat)) rfl
      obtain ⟨e1, _, _⟩ := HI.out.cell (i := 1) (v := .int .u16 (h1 : Nat)) rfl
      obtain ⟨e2, _, _⟩ := HI.out.cell (i := 2) (v := .int .u16 (h2 : Nat)) rfl
      obtain ⟨e3, _, _⟩ := HI.out.cell (i := 3) (v := .int .u16 (h3 : Nat)) rfl
      have r0 : wr.cell? ⟨w.heap.size, 0, none⟩ = some (.int .u16 0) := by rw [cell_in HI.out.row0]; rfl
      have r1 : wr.cell? ⟨w.heap.size, 1, none⟩ = some (.int .u16 0) := by rw [cell_in HI.out.row0]; rfl
      have r2 : wr.cell? ⟨w.heap.size, 2, none⟩ = some (.int .u16 0) := by rw [cell_in HI.out.row0]; rfl
      have r3 : wr.cell? ⟨w.heap.size, 3, none⟩ = some (.int .u16 0) := by rw [cell_in HI.out.row0]; rfl
      have r4 : wr.cell? ⟨w.heap.size, 4, none⟩ = some (.slice none 0 0) := by rw [cell_in HI.out.row0]; rfl
      have t0 : wr.frozen? ⟨w.heap.size, 0, none⟩ = false := frozen_in HI.out.row0
      have t1 : wr.frozen? ⟨w.heap.size, 1, none⟩ = false := frozen_in HI.out.row0
      have t2 : wr.frozen? ⟨w.heap.size, 2, none⟩ = false := frozen_in HI.out.row0
      have t3 : wr.frozen? ⟨w.heap.size, 3, none⟩ = false := frozen_in HI.out.row0
      have t4 : wr.frozen? ⟨w.heap.size, 4, none⟩ = false := frozen_in HI.out.row0
      have hRES : ∀ a b c d f, Parsed n l w (.returned (.tuple #[.agg #[.int .u16 (n : Nat), .int .u16 (h1 : Nat), .int .u16 (h2 : Nat), .int .u16 (h3 : Nat), .slice (some ⟨G, 0, none⟩) n n], .int .i64 (8 + (n : Int) * 6), .nilIface])) (((((wr.setCell ⟨w.heap.size, 0, none⟩ a).setCell ⟨w.heap.size, 1, none⟩ b).setCell ⟨w.heap.size, 2, none⟩ c).setCell ⟨w.heap.size, 3, none⟩ d).setCell ⟨w.heap.size, 4, none⟩ f) := by
        intro a b c d f
        obtain ⟨cur, hcur, hcl, hcv⟩ := HRW.out.row
        refine ⟨G, h1, h2, h3, _, rfl, by simpa using (Array.getElem?_eq_some_iff.1 hcur).1, fun j t i ht hi3 => ?_, ?_⟩
        · have hjl := (List.getElem?_eq_some_iff.1 ht).1
          have hne : G ≠ w.heap.size := by omega
          rw [World.cell?_of_block (w := wr) (by
            rw [Below.heap_setCell _ _ _ _ hne, Below.heap_setCell _ _ _ _ hne, Below.heap_setCell _ _ _ _ hne, Below.heap_setCell _ _ _ _ hne, Below.heap_setCell _ _ _ _ hne]), cell_in hcur]
          simpa using hcv j t i (by have := HL.out; have := HKN.out; omega) ht hi3
        · exact ((((HI.out.below.setCell (Nat.le_refl _) _).setCell (Nat.le_refl _) _).setCell (Nat.le_refl _) _).setCell (Nat.le_refl _) _).setCell (Nat.le_refl _) _
      have HRES := Lib.hid hRES
      have hrow : ∀ a b c d f, (((((wr.setCell ⟨w.heap.size, 0, none⟩ a).setCell ⟨w.heap.size, 1, none⟩ b).setCell ⟨w.heap.size, 2, none⟩ c).setCell ⟨w.heap.size, 3, none⟩ d).setCell ⟨w.heap.size, 4, none⟩ f).heap[w.heap.size]? = some (.cells #[a, b, c, d, f] 92 (0, 0)) := fun a b c d f => by
        have h1 := set_row (j := 0) (x := a) HI.out.row0
        have h2 := set_row (j := 1) (x := b) h1
        have h3 := set_row (j := 2) (x := c) h2
        have h4 := set_row (j := 3) (x := d) h3
        have h5 := set_row (j := 4) (x := f) h4
        simpa [none5] using h5
      have HROW := Lib.hid hrow
      clear hRES hrow hkn
      go_wp2
      (try simp only [Exit.inBlock, Exit.then])
      refine bodyPost_ret (results_3 rfl _ _ _ ⟨w.heap.size, 0, none⟩ _ rfl (run_loadVar_row _ _ _ 92 _ _ _ (HROW.out _ _ _ _ _) Try.underlying92 rfl (by kernel_rfl))) rfl ?_
      exact HRES.out _ _ _ _ _
end Go.Proofs.Ytkfgmjcdaggjcaa.Kp
