/- The records copied and sorted, walked. -/
import Derived.Test.YtdihfcmmnljchaaNmSort
import Derived.Lib.SliceRun
namespace Go.Proofs.Ytdihfcmmnljchaa.Nm
open Go Go.RowKit

theorem stable_any (base g n cap : Nat) (l : List Rec) (w : World) (hl : l.length = n) (hn10 : n ≤ 10) (hok : ∀ x ∈ l, x.id < 8) (hown : w.ownsRow base 35 3 (.slice (some ⟨g, 0, none⟩) n cap) n (recCells l)) (hlow : base ≤ w.heap.size) :
    Calls Try.prog 22 #[.slice (some ⟨g, 0, none⟩) n cap, .int .i64 n, .func (.func 13) #[] #[]] w fun e w' => e = .returned (.tuple #[]) ∧ ∃ l', Sorts base g n cap l l' w w' := by
  have H := Lib.hid (insort_any base g n cap l w hl hn10 hok hown hlow)
  clear hl hok hown hlow
  have h1 : ¬ (20 : Int) ≤ n := by omega
  have h2 : ¬ (20 : Int) < n := by omega
  go_enter Try.func22, Try.ntmps22
  go_wp2
  refine wp_loop_rounds 1 ?_
  rw [rounds_succ]
  go_wp2_with fail
  refine H.out.mono ?_
  rintro e w1 ⟨rfl, l', hs⟩
  have HS := Lib.hid hs
  clear hs
  go_wp2
  refine wp_loop_rounds 1 ?_
  rw [rounds_succ]
  go_wp2
  go_end0
  exact ⟨rfl, l', HS.out⟩

theorem sort_any (base g n cap : Nat) (l : List Rec) (w : World) (hl : l.length = n) (hn10 : n ≤ 10) (hok : ∀ x ∈ l, x.id < 8) (hown : w.ownsRow base 35 3 (.slice (some ⟨g, 0, none⟩) n cap) n (recCells l)) (hlow : base ≤ w.heap.size) :
    Calls Try.prog 12 #[.slice (some ⟨g, 0, none⟩) n cap, .func (.func 13) #[] #[]] w fun e w' => e = .returned (.tuple #[]) ∧ ∃ l', Sorts base g n cap l l' w w' := by
  have H := Lib.hid (stable_any base g n cap l w hl hn10 hok hown hlow)
  clear hl hok hown hlow
  go_enter Try.func12, Try.ntmps12
  go_wp2_with fail
  refine H.out.mono ?_
  rintro e w1 ⟨rfl, l', hs⟩
  have HS := Lib.hid hs
  clear hs
  go_wp2
  go_end0
  exact ⟨rfl, l', HS.out⟩

theorem recCells_one (l : List Rec) : ∀ u ∈ recCells l, u.oneCell' = true := by
  intro u hu
  unfold recCells at hu
  obtain ⟨x, _, hx⟩ := List.mem_flatMap.mp hu
  exact one_rec x.id x.mac (str x.runes) u hx

theorem run_eql_some_slice (W : World) {a : Addr} {n cap : Nat} : (binOp .eql 26 (.slice (some a) n cap) (.slice none 0 0)).run Try.prog W = .ok (.bool false) W := by
  have h := Lib.run_eql_slice_nil (P := Try.prog) W 26 35 (some a) n cap 0 0 Try.underlying26
  simpa using h

/-- What is copied is owned by the call. -/
theorem clone_any (base g n cap : Nat) (l : List Rec) (w : World) (hl : l.length = n) (h0 : 0 < n) (hn10 : n ≤ 10) (hown : w.ownsRow base 35 3 (.slice (some ⟨g, 0, none⟩) n cap) n (recCells l)) :
    Calls Try.prog 11 #[.slice (some ⟨g, 0, none⟩) n cap] w fun e w' => ∃ g' cap', e = .returned (.slice (some ⟨g', 0, none⟩) n cap') ∧ w'.ownsRow w.heap.size 35 3 (.slice (some ⟨g', 0, none⟩) n cap') n (recCells l) ∧ Below w.heap.size w w' := by
  obtain ⟨i0, hi, hz0, hz1, hz2⟩ := info_parts info35
  have hlen : (recCells l).length = n * 3 := by rw [recCells_len, hl]
  have hg := hown.lt g rfl
  have hc : ∀ j u, (recCells l)[j]? = some u → (w.alloc (.cells #[] 35)).cell? ((⟨g, 0, none⟩ : Addr).add j) = some u := by
    intro j u hj
    have hjl := (List.getElem?_eq_some_iff.1 hj).1
    rw [Addr.add_lit, Nat.zero_add, World.cell?_alloc_lt _ _ _ (by exact hg.2), hown.cellAt j (by omega)]
    exact hj
  have HC := Lib.hid hc
  have HLEN := Lib.hid hlen
  clear hc hown hg
  have hnil : ∀ W : World, (binOp .eql 26 (.slice (some ⟨g, 0, none⟩) n cap) (.slice none 0 0)).run Try.prog W = .ok (.bool false) W := fun W => run_eql_some_slice W
  go_enter Try.func11, Try.ntmps11
  go_wp2_with (at_builtin; go_must (refine wpList_append_own _ rfl (.tmp 5) (.tmp 6) 26 rfl (w.heap.size) 35 i0 _ 3 32 Try.underlying26 hi hz0 hz1 hz2 rfl (by decide) _ 0 [] rfl (World.ownsRow_made w #[] 0 (Nat.le_refl _) (by unfold maxLen; omega) rfl) ⟨g, 0, none⟩ n cap (recCells l) rfl HLEN.out HC.out (recCells_one l) ?_ ?_ ?_ ?_))
  · unfold maxLen; omega
  · omega
  · rw [World.size_alloc]; omega
  intro v' w1 hown' hgrow _
  obtain ⟨g', cap', cur, rfl, _⟩ := Row.own_form hown' h0
  have HO := Lib.hid hown'
  have hb : Below w.heap.size w w1 := ((Below.refl _ _).alloc (Nat.le_refl _) _).grown hgrow (by rw [World.size_alloc]; omega) (fun k hk => Nat.le_of_eq (by simpa [Value.ownBlock] using hk))
  have HB := Lib.hid hb
  clear hown' hgrow hb
  go_wp2
  go_ret
  exact ⟨g', cap', rfl, HO.out, HB.out⟩
end Go.Proofs.Ytdihfcmmnljchaa.Nm
