/- The Macintosh's bytes decoded, walked. -/
import Derived.Test.YtdihfcmmnljchaaNmParse
import Derived.Test.YtdihfcmmnljchaaEv
import Derived.Laws.MakeOwn
namespace Go.Proofs.Ytdihfcmmnljchaa.Nm
open Go Go.RowKit

theorem mac_all (w : World) : (List.range 95).map (fun i => Ev.evalCall Try.prog 1 3 29 #[.int .i64 ((32 + i : Nat) : Int)] w) = (List.range 95).map (fun i => some (.int .i32 ((32 + i : Nat) : Int), w)) := by kernel_rfl

theorem mac_any (r : Nat) (h0 : 32 ≤ r) (h1 : r < 127) (w : World) : Calls Try.prog 29 #[.int .i64 (r : Nat)] w fun e w' => e = .returned (.int .i32 (r : Nat)) ∧ w' = w := by
  have h := congrArg (fun l => l[r - 32]?) (mac_all w)
  have hl : r - 32 < 95 := by omega
  simp only [List.getElem?_map, List.getElem?_range hl, Option.map_some] at h
  rw [show 32 + (r - 32) = r by omega] at h
  exact Ev.calls_eval 1 3 (Option.some.inj h)

theorem runes_str (rs : List Nat) (h : ∀ r ∈ rs, Val r) : runesBytes (rs.map fun r => ((r : Nat) : Int)) = str rs := by
  have key : ∀ (rs pre : List Nat), (∀ r ∈ rs, Val r) → (rs.map fun r => ((r : Nat) : Int)).foldl (fun s n => s ++ Utf8.encode n) (str pre) = str (pre ++ rs) := by
    intro rs
    induction rs with
    | nil => intro pre _; simp
    | cons r rs ih =>
      intro pre hv
      rw [List.map_cons, List.foldl_cons, str_snoc pre r (hv r (by simp)), ih (pre ++ [r]) (fun x hx => hv x (by simp [hx]))]
      simp
  exact key rs [] h

theorem run_runes_str (W : World) (G n cap : Nat) (rs : List Nat) (hn : rs.length = n) (hv : ∀ r ∈ rs, Val r) (hc : ∀ j r, rs[j]? = some r → W.cell? ⟨G, j, none⟩ = some (.int .i32 (r : Nat))) :
    (convert 81 9 (.slice (some ⟨G, 0, none⟩) n cap)).run Try.prog W = .ok (.string (str rs)) W := by
  have h := run_convert_runes (P := Try.prog) W 81 9 21 ⟨G, 0, none⟩ n cap (rs.map fun r => ((r : Nat) : Int)) (by simp [hn]) Try.underlying81 (by kernel_rfl) (by kernel_rfl) (fun j hj => by
    have hj' : j < rs.length := by simpa using hj
    rw [Addr.add_lit, Nat.zero_add, hc j _ (List.getElem?_eq_getElem hj')]
    simp [List.getD, hj'])
  rw [h, List.take_of_length_le (by simp [hn]), runes_str rs hv]

/-- The first k characters set. -/
structure Setting (G : Nat) (t : TypeId) (n k : Nat) (mk : Nat → Value) (l : List Nat) (base : Nat) (w W : World) : Prop where
  row : ∃ cur : List Value, W.heap[G]? = some (.cells cur.toArray t (0, 0)) ∧ cur.length = n ∧ ∀ j x, j < k → l[j]? = some x → cur[j]? = some (mk x)
  below : Below base w W

theorem Setting.start {G n : Nat} {t : TypeId} {mk : Nat → Value} {l : List Nat} {z : Value} {w : World} (hG : G = w.heap.size) : Setting G t n 0 mk l w.heap.size w (w.alloc (.cells (madeCells #[z] n) t)) := by
  refine ⟨⟨(madeCells #[z] n).toList, by subst hG; simpa using heap_alloc_new w _, by simpa using size_madeCells _ _, fun j x h => absurd h (by omega)⟩, (Below.refl _ _).alloc (Nat.le_refl _) _⟩

theorem Setting.cell {G n k : Nat} {t : TypeId} {mk : Nat → Value} {l : List Nat} {base : Nat} {w W : World} (h : Setting G t n k mk l base w W) {j : Nat} (hj : j < n) : (∃ u, W.cell? ⟨G, j, none⟩ = some u) ∧ W.frozen? ⟨G, j, none⟩ = false ∧ G < W.heap.size := by
  obtain ⟨cur, hr, hl, _⟩ := h.row
  have hc : W.cell? ⟨G, j, none⟩ = some (cur[j]'(by omega)) := by rw [cell_in hr]; simp
  exact ⟨⟨_, hc⟩, by simp [World.frozen?, hr], World.block_lt_of_cell? W _ hc⟩

theorem Setting.next {G n k x : Nat} {t : TypeId} {mk : Nat → Value} {l : List Nat} {base : Nat} {w W W1 : World} (h : Setting G t n k mk l base w W) (hx : l[k]? = some x) (hk : k < n) (hbG : base ≤ G) (hb : Below W.heap.size W W1) (hG : G < W.heap.size) (hbs : base ≤ W.heap.size) :
    Setting G t n (k + 1) mk l base w (W1.setCell ⟨G, k, none⟩ (mk x)) := by
  obtain ⟨cur, hr, hl, hc⟩ := h.row
  have hr1 : W1.heap[G]? = some (.cells cur.toArray t (0, 0)) := (hb.block G hG).trans hr
  refine ⟨⟨cur.set k (mk x), ?_, by simpa using hl, ?_⟩, ?_⟩
  · have := set_row (j := k) (x := mk x) hr1
    rw [this]
    simp
  · intro j y hj hy
    by_cases e : j = k
    · subst e
      rw [hx] at hy
      rw [List.getElem?_set_self (by omega)]
      simpa using congrArg (Option.map mk) hy
    · rw [List.getElem?_set_ne (by omega)]
      exact hc j y (by omega) hy
  · exact (h.below.trans (hb.mono hbs)).setCell hbG _

set_option maxRecDepth 100000 in
set_option maxHeartbeats 2000000 in
theorem macdec_any (g off n cap : Nat) (rs : List Nat) (w : World) (hn : rs.length = n) (hn2 : n ≤ 1000) (hg : g < w.heap.size) (hrs : ∀ r ∈ rs, 32 ≤ r ∧ r < 127) (h : ∀ j x, rs[j]? = some x → w.cell? ⟨g, off + j, none⟩ = some (.int .u8 (x : Nat))) :
    Calls Try.prog 25 #[.slice (some ⟨g, off, none⟩) n cap] w fun e w' => e = .returned (.string (str rs)) ∧ Below w.heap.size w w' := by
  have HN := Lib.hid hn
  have HR := Lib.hid hrs
  have H := Lib.hid h
  clear hn hrs h
  have hmk : ∀ u : World, (Instr.makeSlice 81 (.int .i64 n) (.int .i64 n)).run Try.prog u = .ok (.slice (some ⟨u.heap.size, 0, none⟩) n n) (u.alloc (.cells (madeCells #[.int .i32 0] n) 21)) := fun u => by
    obtain ⟨i0, hi, hz0, hz1, hz2⟩ := info_parts (show (Try.prog.info? 21).map (fun i => (i.zero, i.size, i.bytes)) = some (some (.int .i32 0), 1, 4) by kernel_rfl)
    have := run_make u (P := Try.prog) 81 21 i0 (.int .i32 0) Try.underlying81 hi hz0 .i64 .i64 n n (by omega) (Int.le_refl _) (by rw [hz2]; omega) (by omega)
    simpa [hz1, Value.cells] using this
  go_enter Try.func25, Try.ntmps25
  go_wp2
  clear hmk
  go_loopg [11] (n) (fun gk iv W => ∃ k : Nat, k ≤ n ∧ gk = n - k ∧ iv = .int .i64 k ∧ Setting w.heap.size 21 n k (fun r => .int .i32 (r : Nat)) rs w.heap.size w W)
  case atStart => exact ⟨0, Nat.zero_le _, rfl, rfl, Setting.start rfl⟩
  case round =>
    obtain ⟨k, hk, hgk, rfl, hs⟩ := hrel
    have HK := Lib.hid hgk
    have HS := Lib.hid hs
    clear hgk
    by_cases hlt : k < n
    · obtain ⟨x, hx⟩ : ∃ x, rs[k]? = some x := ⟨_, List.getElem?_eq_getElem (by have := HN.out; omega)⟩
      have hx2 := HR.out x (List.mem_of_getElem? hx)
      have c0 : wr.cell? ⟨g, off + k, none⟩ = some (.int .u8 (x : Nat)) := by rw [← H.out k x hx]; exact hs.below.cell hg
      obtain ⟨⟨u, hu⟩, hf, hG⟩ := hs.cell hlt
      have hC := Lib.hid (fun W => mac_any x hx2.1 hx2.2 W)
      have hx3 : x < 256 := by omega
      have hsz := hs.below.size
      have HX := Lib.hid hx
      clear hs hx hx2
      go_wp2_with fail
      refine (hC.out _).mono ?_
      rintro e w1 ⟨rfl, rfl⟩
      have HS2 := Lib.hid (HS.out.next HX.out hlt (Nat.le_refl _) (Below.refl _ _) hG hsz)
      go_wp2
      go_roundg (n - (k + 1))
      case measure => have := HK.out; omega
      case rel => exact ⟨k + 1, by omega, rfl, by go_num, HS2.out⟩
    · have hc : ∀ j r, rs[j]? = some r → wr.cell? ⟨w.heap.size, j, none⟩ = some (.int .i32 (r : Nat)) := fun j r hj => by
        obtain ⟨cur, hr, hl, hcc⟩ := hs.row
        have hjl := (List.getElem?_eq_some_iff.1 hj).1
        rw [cell_in hr]
        simpa using hcc j r (by have := HN.out; omega) hj
      have hconv := run_runes_str wr w.heap.size n n rs HN.out (fun r hr => by have := HR.out r hr; unfold Val; omega) hc
      clear hs hc
      go_wp2
      go_ret
      exact ⟨rfl, HS.out.below⟩
end Go.Proofs.Ytdihfcmmnljchaa.Nm
