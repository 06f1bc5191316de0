/- What 'zzFamily' returns of a text of printable ASCII letters: the small letters without blanks. -/
import Derived.Test.YtpmlofllkhpihaaProg
import Derived.Test.YtpmlofllkhpihaaFam
import Derived.WalkKit
import Derived.WalkSmall
import Derived.Deep.LoopGhost
import Derived.Laws.Cover4
import Derived.Laws.BytesArg
import Derived.Lib.OthersKept
import Derived.KernelRfl
import Derived.Lib.Hide
import Derived.Deep.DeepMust
namespace Go.Proofs.Ytpmlofllkhpihaa
open Go.RowKit Fam

def nums (k : IntKind) (xs : List Int) : List Value := xs.map (Value.int k)
theorem cell_new1 (w : World) (a : Value) (t : TypeId) : ∀ j u, [a][j]? = some u → (w.alloc (.cells #[a] t)).cell? ((⟨w.heap.size, 0, none⟩ : Addr).add j) = some u := by
  intro j u hj
  match j, hj with
  | 0, hj => simp at hj; subst hj; simp [Addr.add]
  | j + 1, hj => simp at hj
theorem nums_snoc (k : IntKind) (xs ys : List Int) : nums k xs ++ nums k ys = nums k (xs ++ ys) := by simp [nums]
theorem nums_one (k : IntKind) (x : Int) : [Value.int k x] = nums k [x] := rfl
theorem nums_len (k : IntKind) (xs : List Int) : (nums k xs).length = xs.length := by simp [nums]

theorem info21 : (Try.prog.info? 21).map (fun i => (i.zero, i.size, i.bytes)) = some (some (.int .i32 0), 1, 4) := by kernel_rfl

theorem encode_ascii (c : Int) (h0 : 0 ≤ c) (h1 : c < 128) : Utf8.encode c = ⟨#[UInt8.ofNat c.toNat]⟩ := by
  have hv : Utf8.valid c = true := by unfold Utf8.valid; simp; omega
  unfold Utf8.encode
  simp only [hv, if_true]
  rw [if_pos (by omega)]

theorem foldl_runes : ∀ (xs : List Int) (s : ByteArray), (∀ c ∈ xs, 0 ≤ c ∧ c < 128) → xs.foldl (fun r n => r ++ Utf8.encode n) s = ⟨s.data ++ (xs.map fun n => UInt8.ofNat n.toNat).toArray⟩
  | [], s, _ => by simp
  | x :: xs, s, h => by
    obtain ⟨a, b⟩ := h x (by simp)
    simp only [List.foldl_cons]
    rw [foldl_runes xs _ (fun c hc => h c (by simp [hc])), encode_ascii x a b]
    simp [ByteArray.data_append]

theorem runes_ascii (xs : List Int) (h : ∀ c ∈ xs, 0 ≤ c ∧ c < 128) : runesBytes xs = strOfNums xs := by
  unfold runesBytes
  rw [foldl_runes xs _ h]
  have e : ByteArray.empty.data = #[] := rfl
  rw [e]
  simp [strOfNums]

/-- 'string(rs)' of a row of runes of the call's own, all ASCII. -/
theorem own_runes {P : Program} {w : World} {base n : Nat} {e src dst : TypeId} {v : Value} {xs : List Int} (hs : P.underlying src = some (.slice e)) (he : P.underlying e = some (.int .i32)) (hd : P.underlying dst = some .string)
    (hx : ∀ c ∈ xs, 0 ≤ c ∧ c < 128) (h : w.ownsRow base e 1 v n (nums .i32 xs)) : (convert src dst v).run P w = .ok (.string (strOfNums xs)) w := by
  have hl : xs.length = n := by have := h.1; simp [nums] at this; exact this
  rcases h.2 with ⟨rfl, rfl⟩ | ⟨g, cap, cur, rfl, _⟩
  · obtain rfl : xs = [] := List.eq_nil_of_length_eq_zero hl
    exact run_convert_runes_nil w src dst e 0 0 hs he hd
  · rw [run_convert_runes w src dst e _ n cap xs (by omega) hs he hd, List.take_of_length_le (by omega), runes_ascii xs hx]
    intro j hj
    exact h.cells (g := g) rfl j (.int .i32 (xs.getD j 0)) (by simp [nums, List.getElem?_eq_getElem hj, List.getD_eq_getElem?_getD])

theorem str_at (l : List Int) (hl : ∀ c ∈ l, 0 ≤ c ∧ c < 256) (k : Nat) (hk : k < l.length) (h : k < (strOfNums l).size) : (((strOfNums l)[k]'h).toNat : Int) = l.getD k 0 := by
  have h1 : (strOfNums l)[k]'h = UInt8.ofNat (l[k]).toNat := by
    show (strOfNums l).data[k] = _
    simp [strOfNums]
  obtain ⟨a, b⟩ := hl l[k] (List.getElem_mem hk)
  rw [h1, UInt8.toNat_ofNat']
  simp [List.getD, hk]
  omega

theorem own_iterAt {w : World} {B e size n : Nat} {v : Value} {xs : List Value} {k : Nat} {s : ByteArray} (h : w.ownsRow B e size v n xs) (hk : k < B) (pos' : Nat) : (w.iterAt k s pos').ownsRow B e size v n xs := by
  obtain ⟨h1, h2⟩ := h
  refine ⟨h1, ?_⟩
  rcases h2 with h2 | ⟨g, cap, cur, hv, hg, hh, r⟩
  · exact .inl h2
  · exact .inr ⟨g, cap, cur, hv, hg, (Lib.iterAt_other w k g s pos' (by omega)).trans hh, r⟩

theorem take_snoc (l : List Int) (k : Nat) (h : k < l.length) : l.take (k + 1) = l.take k ++ [l.getD k 0] := by
  rw [List.take_succ_eq_append_getElem h]; simp [List.getD, h]

theorem ret_str {a b : ByteArray} (h : a = b) : Ending.returned (.string a) = .returned (.string b) := by rw [h]

/-- Behind an append to a row of the call's own: the iterator stands where it stood. -/
theorem after_append {w w1 : World} {B k pos e n : Nat} {s : ByteArray} {v : Value} {xs : List Value} {o : Obj} (hit : w.heap[B]? = some (.stringIter s pos)) (hown : (w.iterAt B s (k + 1)).ownsRow (B + 1) e 1 v n xs)
    (hg : ((w.iterAt B s (k + 1)).alloc o).grownBy w1 v.ownBlock) : w1.heap[B]? = some (.stringIter s (k + 1)) := by
  have h1 := Lib.iterAt_heap w B s pos (k + 1) hit
  have hlt := (Array.getElem?_eq_some_iff.1 h1).1
  have h2 : ((w.iterAt B s (k + 1)).alloc o).heap[B]? = some (.stringIter s (k + 1)) := (Below.heap_alloc _ o B hlt).trans h1
  rw [hg.block B (by simp; omega) (fun e => by
    have := (hown.lt B e.symm).1; omega)]
  exact h2
theorem below_append {w0 w w1 : World} {B k e n : Nat} {s : ByteArray} {v : Value} {xs : List Value} {o : Obj} (hb : Below B w0 w) (hown : (w.iterAt B s (k + 1)).ownsRow (B + 1) e 1 v n xs)
    (hg : ((w.iterAt B s (k + 1)).alloc o).grownBy w1 v.ownBlock) (hsize : B + 1 ≤ w.heap.size) : Below B w0 w1 := by
  have e1 : (w.iterAt B s (k + 1)).heap.size = w.heap.size := Lib.iterAt_size _ _ _ _
  have h1 := Lib.below_iterAt hb (Nat.le_refl B) s (k + 1)
  exact (h1.alloc (by omega) o).grown hg (by simp; omega) (fun j hj => by have := (hown.lt j hj).1; omega)

set_option maxHeartbeats 1000000 in
theorem zz_any (l : List Int) (hl : ∀ c ∈ l, Ok c) (hn : l.length ≤ 100) (w : World) :
    Calls Try.prog 15 #[.string (strOfNums l)] w fun e w' => e = .returned (.string (strOfNums (fam l))) ∧ Below w.heap.size w w' := by
  have hsz : (strOfNums l).size = l.length := strOfNums_size l
  obtain ⟨i0, hi, hz0, hz1, hz2⟩ := info_parts info21
  obtain ⟨s, hs⟩ : ∃ s, s = strOfNums l := ⟨_, rfl⟩
  rw [← hs] at hsz ⊢
  have HS := Lib.hid hs
  have HZ := Lib.hid hsz
  clear hs hsz
  go_enter Try.func15, Try.ntmps15
  go_wp2
  have hB : (w.iter s 0).heap.size = w.heap.size + 1 := by simp [World.iter]
  go_loopg [3] (l.length) (fun gk out wr => ∃ k, k ≤ l.length ∧ gk = l.length - k ∧ wr.heap[w.heap.size]? = some (.stringIter s k) ∧
    wr.ownsRow (w.heap.size + 1) 21 1 out (fam (l.take k)).length (nums .i32 (fam (l.take k))) ∧ Below w.heap.size w wr ∧ w.heap.size + 1 ≤ wr.heap.size)
  case atStart => exact ⟨0, Nat.zero_le _, rfl, World.iter_heap _ _ _, World.ownsRow_nil _ _ _ _, (Below.refl _ _).alloc (Nat.le_refl _) _, Nat.le_of_eq hB.symm⟩
  case round =>
    obtain ⟨k, hk, hgk, hit, hown, hbel, hsize⟩ := hrel
    by_cases hlt : k < l.length
    · obtain ⟨c, hc⟩ : ∃ c, c = l.getD k 0 := ⟨_, rfl⟩
      have hok : Ok c := by rw [hc]; have := hl (l[k]) (List.getElem_mem hlt); simpa [List.getD, hlt] using this
      have hks : k < s.size := by rw [HZ.out]; exact hlt
      have hch : ((s[k]'hks).toNat : Int) = c := by
        have := str_at l (fun x hx => by have := hl x hx; unfold Ok at this; omega) k hlt (by rw [← HS.out]; exact hks)
        rw [hc, ← this]
        exact congrArg (fun x : UInt8 => (x.toNat : Int)) (by simp only [HS.out])
      have hnext : ∀ ty, (Instr.next (.pointer (some ⟨w.heap.size, 0, none⟩)) true ty).run Try.prog wr = .ok (.tuple #[.bool true, .int .i64 k, .int .i32 c]) (wr.iterAt w.heap.size s (k + 1)) := fun ty => by
        rw [Lib.run_next_ascii_at (P := Try.prog) wr w.heap.size s k ty hit hks (by unfold Ok at hok; omega), hch]
      have HC := Lib.hid hc
      have HT := Lib.hid (take_snoc l k hlt)
      have HG := Lib.hid hgk
      have HI := Lib.hid hit
      have HH := Lib.hid hch
      clear hc hgk hit hch
      obtain ⟨hc1, hc2⟩ := hok
      have hown1 := own_iterAt (s := s) hown (Nat.lt_succ_self _) (k + 1)
      by_cases h65 : 65 ≤ c ∧ c ≤ 90
      · obtain ⟨h1, h2⟩ := h65
        have t1 : (c + 32 != 32) = true := by rw [bne_iff_ne]; omega
        have t2 : (c + 32 != 9) = true := by rw [bne_iff_ne]; omega
        go_wp2_with (at_builtin; go_must (refine wpList_append_own _ rfl (.tmp 37) (.tmp 39) 31 rfl (w.heap.size + 1) 21 i0 (.int .i32 0) 1 4 Try.underlying31 hi hz0 hz1 hz2 rfl (by decide) _ _ _ rfl (hown1.alloc _) ⟨(wr.iterAt w.heap.size s (k + 1)).heap.size, 0, none⟩ 1 1 [.int .i32 (c + 32)] rfl rfl (cell_new1 _ _ _) (ints_oneCell .i32 [(c + 32)]) ?_ ?_ ?_ ?_))
        · have := fam_le (l.take k); have : (l.take k).length ≤ k := List.length_take_le _ _; unfold maxLen; omega
        · have := fam_le (l.take k); have : (l.take k).length ≤ k := List.length_take_le _ _; omega
        · have : (wr.iterAt w.heap.size s (k + 1)).heap.size = wr.heap.size := Lib.iterAt_size _ _ _ _
          simp; omega
        · intro v' w1 hown' hgrow _
          have hstep : fam (l.take (k + 1)) = fam (l.take k) ++ [(c + 32)] := by
            rw [HT.out, fam_snoc, ← HC.out]
            have e : small c = (c + 32) := by unfold small; rw [if_pos ⟨h1, h2⟩]
            rw [e, if_neg (by omega)]
          have hit2 : w1.heap[w.heap.size]? = some (.stringIter s (k + 1)) := after_append (s := s) HI.out hown1 hgrow
          have hbel2 : Below w.heap.size w w1 := below_append hbel hown1 hgrow hsize
          have hsz2 : w.heap.size + 1 ≤ w1.heap.size := by
            have := hgrow.size
            have e : (wr.iterAt w.heap.size s (k + 1)).heap.size = wr.heap.size := Lib.iterAt_size _ _ _ _
            simp at this; omega
          have R : ∃ k', k' ≤ l.length ∧ l.length - (k + 1) = l.length - k' ∧ w1.heap[w.heap.size]? = some (.stringIter s k') ∧ w1.ownsRow (w.heap.size + 1) 21 1 v' (fam (l.take k')).length (nums .i32 (fam (l.take k'))) ∧ Below w.heap.size w w1 ∧ w.heap.size + 1 ≤ w1.heap.size :=
            ⟨k + 1, by omega, rfl, hit2, by rw [hstep, List.length_append, ← nums_snoc]; exact hown', hbel2, hsz2⟩
          have HR := Lib.hid R
          clear R hit2 hbel2 hsz2 hown' hgrow hown hown1 hnext hstep
          go_wp2
          go_roundg (l.length - (k + 1))
          case measure => have := HG.out; omega
          case rel => exact HR.out
      · by_cases h32 : c = 32
        · have hstep : fam (l.take (k + 1)) = fam (l.take k) := by
            rw [HT.out, fam_snoc, ← HC.out, h32]
            have e : small 32 = 32 := by decide
            rw [if_pos (.inl e), List.append_nil]
          have R : ∃ k', k' ≤ l.length ∧ l.length - (k + 1) = l.length - k' ∧ (wr.iterAt w.heap.size s (k + 1)).heap[w.heap.size]? = some (.stringIter s k') ∧ (wr.iterAt w.heap.size s (k + 1)).ownsRow (w.heap.size + 1) 21 1 u3 (fam (l.take k')).length (nums .i32 (fam (l.take k'))) ∧ Below w.heap.size w (wr.iterAt w.heap.size s (k + 1)) ∧ w.heap.size + 1 ≤ (wr.iterAt w.heap.size s (k + 1)).heap.size :=
            ⟨k + 1, by omega, rfl, Lib.iterAt_heap _ _ _ _ _ HI.out, by rw [hstep]; exact hown1, Lib.below_iterAt hbel (Nat.le_refl _) _ _, by rw [Lib.iterAt_size]; exact hsize⟩
          have HR := Lib.hid R
          clear R hstep hown hown1
          subst h32
          go_wp2
          go_roundg (l.length - (k + 1))
          case measure => have := HG.out; omega
          case rel => exact HR.out
        · have h1 : ¬ (65 ≤ c ∧ c ≤ 90) := h65
          have h33 : 33 ≤ c := by omega
          rcases (show c < 65 ∨ 90 < c from by omega) with h65 | h65
          · have t1 : (c != 32) = true := by rw [bne_iff_ne]; omega
            have t2 : (c != 9) = true := by rw [bne_iff_ne]; omega
            go_wp2_with (at_builtin; go_must (refine wpList_append_own _ rfl (.tmp 37) (.tmp 39) 31 rfl (w.heap.size + 1) 21 i0 (.int .i32 0) 1 4 Try.underlying31 hi hz0 hz1 hz2 rfl (by decide) _ _ _ rfl (hown1.alloc _) ⟨(wr.iterAt w.heap.size s (k + 1)).heap.size, 0, none⟩ 1 1 [.int .i32 c] rfl rfl (cell_new1 _ _ _) (ints_oneCell .i32 [c]) ?_ ?_ ?_ ?_))
            · have := fam_le (l.take k); have : (l.take k).length ≤ k := List.length_take_le _ _; unfold maxLen; omega
            · have := fam_le (l.take k); have : (l.take k).length ≤ k := List.length_take_le _ _; omega
            · have : (wr.iterAt w.heap.size s (k + 1)).heap.size = wr.heap.size := Lib.iterAt_size _ _ _ _
              simp; omega
            · intro v' w1 hown' hgrow _
              have hstep : fam (l.take (k + 1)) = fam (l.take k) ++ [c] := by
                rw [HT.out, fam_snoc, ← HC.out]
                have e : small c = c := by unfold small; rw [if_neg h1]
                rw [e, if_neg (by omega)]
              have hit2 : w1.heap[w.heap.size]? = some (.stringIter s (k + 1)) := after_append (s := s) HI.out hown1 hgrow
              have hbel2 : Below w.heap.size w w1 := below_append hbel hown1 hgrow hsize
              have hsz2 : w.heap.size + 1 ≤ w1.heap.size := by
                have := hgrow.size
                have e : (wr.iterAt w.heap.size s (k + 1)).heap.size = wr.heap.size := Lib.iterAt_size _ _ _ _
                simp at this; omega
              have R : ∃ k', k' ≤ l.length ∧ l.length - (k + 1) = l.length - k' ∧ w1.heap[w.heap.size]? = some (.stringIter s k') ∧ w1.ownsRow (w.heap.size + 1) 21 1 v' (fam (l.take k')).length (nums .i32 (fam (l.take k'))) ∧ Below w.heap.size w w1 ∧ w.heap.size + 1 ≤ w1.heap.size :=
                ⟨k + 1, by omega, rfl, hit2, by rw [hstep, List.length_append, ← nums_snoc]; exact hown', hbel2, hsz2⟩
              have HR := Lib.hid R
              clear R hit2 hbel2 hsz2 hown' hgrow hown hown1 hnext hstep
              go_wp2
              go_roundg (l.length - (k + 1))
              case measure => have := HG.out; omega
              case rel => exact HR.out
          · have t1 : (c != 32) = true := by rw [bne_iff_ne]; omega
            have t2 : (c != 9) = true := by rw [bne_iff_ne]; omega
            go_wp2_with (at_builtin; go_must (refine wpList_append_own _ rfl (.tmp 37) (.tmp 39) 31 rfl (w.heap.size + 1) 21 i0 (.int .i32 0) 1 4 Try.underlying31 hi hz0 hz1 hz2 rfl (by decide) _ _ _ rfl (hown1.alloc _) ⟨(wr.iterAt w.heap.size s (k + 1)).heap.size, 0, none⟩ 1 1 [.int .i32 c] rfl rfl (cell_new1 _ _ _) (ints_oneCell .i32 [c]) ?_ ?_ ?_ ?_))
            · have := fam_le (l.take k); have : (l.take k).length ≤ k := List.length_take_le _ _; unfold maxLen; omega
            · have := fam_le (l.take k); have : (l.take k).length ≤ k := List.length_take_le _ _; omega
            · have : (wr.iterAt w.heap.size s (k + 1)).heap.size = wr.heap.size := Lib.iterAt_size _ _ _ _
              simp; omega
            · intro v' w1 hown' hgrow _
              have hstep : fam (l.take (k + 1)) = fam (l.take k) ++ [c] := by
                rw [HT.out, fam_snoc, ← HC.out]
                have e : small c = c := by unfold small; rw [if_neg h1]
                rw [e, if_neg (by omega)]
              have hit2 : w1.heap[w.heap.size]? = some (.stringIter s (k + 1)) := after_append (s := s) HI.out hown1 hgrow
              have hbel2 : Below w.heap.size w w1 := below_append hbel hown1 hgrow hsize
              have hsz2 : w.heap.size + 1 ≤ w1.heap.size := by
                have := hgrow.size
                have e : (wr.iterAt w.heap.size s (k + 1)).heap.size = wr.heap.size := Lib.iterAt_size _ _ _ _
                simp at this; omega
              have R : ∃ k', k' ≤ l.length ∧ l.length - (k + 1) = l.length - k' ∧ w1.heap[w.heap.size]? = some (.stringIter s k') ∧ w1.ownsRow (w.heap.size + 1) 21 1 v' (fam (l.take k')).length (nums .i32 (fam (l.take k'))) ∧ Below w.heap.size w w1 ∧ w.heap.size + 1 ≤ w1.heap.size :=
                ⟨k + 1, by omega, rfl, hit2, by rw [hstep, List.length_append, ← nums_snoc]; exact hown', hbel2, hsz2⟩
              have HR := Lib.hid R
              clear R hit2 hbel2 hsz2 hown' hgrow hown hown1 hnext hstep
              go_wp2
              go_roundg (l.length - (k + 1))
              case measure => have := HG.out; omega
              case rel => exact HR.out
    · have hnext := fun ty => Lib.run_next_end_at (P := Try.prog) wr w.heap.size s k ty hit (by rw [HZ.out]; exact hlt)
      have hconv := own_runes (P := Try.prog) (src := 31) (dst := 9) Try.underlying31 Try.underlying21 Try.underlying9 (xs := fam (l.take k)) (by
        rw [List.take_of_length_le (by omega)]
        intro c hc
        have := fam_ok hl c hc
        unfold Ok at this; omega) hown
      have hfin : fam (l.take k) = fam l := by rw [List.take_of_length_le (by omega)]
      have HF := Lib.hid hfin
      have HG := Lib.hid hgk
      have HI := Lib.hid hit
      clear hfin hgk hit
      go_wp2
      go_ret
      exact ⟨ret_str (congrArg strOfNums HF.out), hbel⟩

theorem fname_any (l : List Int) (hl : ∀ c ∈ l, Ok c) (hn : l.length ≤ 100) (w : World) :
    Calls Try.prog 6 #[.string (strOfNums l)] w fun e w' => e = .returned (.string (strOfNums (fam l))) ∧ Below w.heap.size w w' := by
  have hz := fun w => zz_any l hl hn w
  obtain ⟨s, hs⟩ : ∃ s, s = strOfNums l := ⟨_, rfl⟩
  rw [← hs] at hz ⊢
  have HZ := Lib.hid hz
  clear hs hz
  go_enter Try.func6, Try.ntmps6
  go_wp2_with (first | (go_at_call 15; refine (HZ.out _).mono ?_; rintro e w' ⟨rfl, hb⟩) | go_in)
  go_ret
  exact ⟨rfl, hb⟩
end Go.Proofs.Ytpmlofllkhpihaa
