/- Laying a page into a set, walked. -/
import Derived.Test.YtpmlofllkhpihaaRsDel
import Derived.Test.YtpmlofllkhpihaaRow
import Derived.Deep.DeepMust
import Derived.Maps.AppendAt
namespace Go.Proofs.Ytpmlofllkhpihaa.Rs
open Go Go.RowKit

theorem info55 : (Try.prog.info? 55).map (fun i => (i.zero, i.size, i.bytes)) = some (some (.agg #[.int .u16 0, .int .u32 0, .int .u32 0, .int .u32 0, .int .u32 0, .int .u32 0, .int .u32 0, .int .u32 0, .int .u32 0]), 9, 36) := by kernel_rfl

theorem cells_new (w : World) (l : List Value) (t : TypeId) : ∀ j u, l[j]? = some u → (w.alloc (.cells l.toArray t)).cell? ((⟨w.heap.size, 0, none⟩ : Addr).add j) = some u := by
  intro j u hj
  rw [Addr.add_lit, Nat.zero_add, World.cell?_alloc_at _ _ _ _ rfl]
  simpa using hj

def zeros9 : List Value := [.int .u16 0, .int .u32 0, .int .u32 0, .int .u32 0, .int .u32 0, .int .u32 0, .int .u32 0, .int .u32 0, .int .u32 0]
theorem zeros9_one : ∀ u ∈ zeros9, u.oneCell' = true := by decide

theorem cell_in {w : World} {g j : Nat} {cur : Array Value} {t : TypeId} (h : w.heap[g]? = some (.cells cur t (0, 0))) : w.cell? ⟨g, j, none⟩ = cur[j]? := by
  simp [World.cell?, h]

theorem cellsOf_one (ps : List Page) : ∀ u ∈ cellsOf ps, u.oneCell' = true := by
  intro u hu
  unfold cellsOf at hu
  obtain ⟨p, _, hp⟩ := List.mem_flatMap.mp hu
  unfold Page.cells at hp
  rcases List.mem_cons.mp hp with h | h
  · subst h; rfl
  · obtain ⟨b, _, rfl⟩ := List.mem_map.mp h; rfl

theorem one_zero (ref : Nat) : ∀ u ∈ (zeroP ref).cells, u.oneCell' = true := fun u hu => cellsOf_one [zeroP ref] u (by simpa [cellsOf] using hu)

theorem page_cells {w : World} {b : Nat} {a0 a1 a2 a3 a4 a5 a6 a7 a8 : Value} (h : w.heap[b]? = some (.cells #[a0, a1, a2, a3, a4, a5, a6, a7, a8] 55 (0, 0))) :
    w.cell? ⟨b, 0, none⟩ = some a0 ∧ w.cell? ⟨b, 1, none⟩ = some a1 ∧ w.cell? ⟨b, 2, none⟩ = some a2 ∧ w.cell? ⟨b, 3, none⟩ = some a3 ∧ w.cell? ⟨b, 4, none⟩ = some a4 ∧ w.cell? ⟨b, 5, none⟩ = some a5 ∧ w.cell? ⟨b, 6, none⟩ = some a6 ∧ w.cell? ⟨b, 7, none⟩ = some a7 ∧ w.cell? ⟨b, 8, none⟩ = some a8 := by
  refine ⟨?_, ?_, ?_, ?_, ?_, ?_, ?_, ?_, ?_⟩ <;> exact cell_in h

/-- What a new page leaves: the set's variable holds v', which owns the pages qs. -/
structure Holds (Bs base : Nat) (qs : List Page) (w : World) (v : Value) : Prop where
  cell : w.cell? ⟨Bs, 0, none⟩ = some v
  free : w.frozen? ⟨Bs, 0, none⟩ = false
  own : w.ownsRow base 55 9 v qs.length (cellsOf qs)
  low : Bs < base
  size : base ≤ w.heap.size

def After (Bs base : Nat) (qs : List Page) (w w' : World) : Prop := ∃ v', Holds Bs base qs w' v' ∧ Below Bs w w'

set_option maxHeartbeats 1000000 in
theorem insert_any (Bs base n pos : Nat) (v : Value) (ps : List Page) (ref : Nat) (w : World) (hn : ps.length = n) (hn100 : n ≤ 1000) (hg : Good ps) (hpos : pos ≤ n)
    (hold : Holds Bs base ps w v) (href : ref < 65536) :
    Calls Try.prog 21 #[.pointer (some ⟨Bs, 0, none⟩), .agg #[.int .u16 ref, .int .u32 0, .int .u32 0, .int .u32 0, .int .u32 0, .int .u32 0, .int .u32 0, .int .u32 0, .int .u32 0], .int .i64 pos] w fun e w' => e = .returned (.tuple #[]) ∧ After Bs base (ps.take pos ++ zeroP ref :: ps.drop pos) w w' := by
  obtain ⟨hc, hf, hown, hB, hbase⟩ := hold
  rw [hn] at hown
  obtain ⟨i0, hi, hz0, hz1, hz2⟩ := info_parts info55
  have hBlt : Bs < w.heap.size := by omega
  go_enter Try.func21, Try.ntmps21
  go_wp2_with (at_builtin; go_must (refine wpList_append_own_at _ rfl (.tmp 9) (.tmp 11) 40 rfl base 55 i0 _ 9 36 Try.underlying40 hi hz0 hz1 hz2 rfl (by decide) _ _ _ rfl ((hown.alloc _).alloc _) ⟨w.heap.size + 1, 0, none⟩ 1 1 zeros9 rfl rfl ?_ zeros9_one ?_ ?_ ?_ ?_))
  · have := cells_new (w.alloc (.cells #[.int .u16 ref, .int .u32 0, .int .u32 0, .int .u32 0, .int .u32 0, .int .u32 0, .int .u32 0, .int .u32 0, .int .u32 0] 55)) zeros9 55
    simpa [zeros9] using this
  · unfold maxLen; omega
  · omega
  · simp; omega
  intro v' w3 hown' hgrow _ hat
  obtain ⟨g, cap', cur, rfl, hgb, hgh, hcap, hmax, hcl, htake⟩ := Row.own_form hown' (by omega)
  have hBg : Bs ≠ g := by omega
  have hgw : g ≠ w.heap.size := by
    rcases hat with h | h
    · have := (hown.lt g (h.symm.trans rfl)).2; omega
    · have h' : some g = some _ := h; have := Option.some.inj h'; omega
  have hne : some Bs ≠ v.ownBlock := fun e => by have := (hown.lt Bs e.symm).1; omega
  have hb3 : w3.heap[Bs]? = w.heap[Bs]? := by
    rw [hgrow.block Bs (by simp; omega) hne, Below.heap_alloc _ _ _ (by simp; omega), Below.heap_alloc _ _ _ hBlt]
  have hc3 : w3.cell? ⟨Bs, 0, none⟩ = some v := (World.cell?_of_block hb3).trans hc
  have hf3 : w3.frozen? ⟨Bs, 0, none⟩ = false := (World.frozen?_of_block hb3).trans hf
  have hbel3 : Below Bs w w3 := (((Below.refl _ _).alloc (by omega) _).alloc (by simp; omega) _).grown hgrow (by simp; omega) (fun k hk => by have := (hown.lt k hk).1; omega)
  have hs3 : w.heap.size + 2 ≤ w3.heap.size := by have := hgrow.size; simpa using this
  have hpg : w3.heap[w.heap.size]? = some (.cells #[.int .u16 ref, .int .u32 0, .int .u32 0, .int .u32 0, .int .u32 0, .int .u32 0, .int .u32 0, .int .u32 0, .int .u32 0] 55 (0, 0)) := by
    rw [hgrow.block w.heap.size (by simp; omega) (fun e => by have := (hown.lt _ e.symm).2; omega), Below.heap_alloc _ _ _ (by simp), heap_alloc_new]
  have HG := Lib.hid hgh
  have HO := Lib.hid hown
  have HT := Lib.hid htake
  have HL := Lib.hid hcl
  have HB := Lib.hid hbel3
  have HP := Lib.hid hpg
  clear hgh hown htake hcl hbel3 hgrow hown' hat hpg hc hb3 hz0 hz1 hz2 hi
  unfold maxLen at hmax
  go_wp2
  obtain ⟨vv, hvv⟩ : ∃ vv, vv = Value.slice (some ⟨g, 0, none⟩) (n + 1) cap' := ⟨_, rfl⟩
  have hW1 : (w3.setCell ⟨Bs, 0, none⟩ (.slice (some ⟨g, 0, none⟩) (n + 1) cap')).cell? ⟨Bs, 0, none⟩ = some (.slice (some ⟨g, 0, none⟩) (n + 1) cap') := World.cell?_setCell_same _ _ _ hc3
  have hW2 : (w3.setCell ⟨Bs, 0, none⟩ (.slice (some ⟨g, 0, none⟩) (n + 1) cap')).frozen? ⟨Bs, 0, none⟩ = false := by rw [World.frozen?_setCell]; exact hf3
  have hW3 : (w3.setCell ⟨Bs, 0, none⟩ (.slice (some ⟨g, 0, none⟩) (n + 1) cap')).heap[g]? = some (.cells cur.toArray 55 (0, 0)) := by rw [Below.heap_setCell _ _ _ _ (Ne.symm hBg)]; exact HG.out
  have hW4 : Below Bs w (w3.setCell ⟨Bs, 0, none⟩ (.slice (some ⟨g, 0, none⟩) (n + 1) cap')) := HB.out.setCell (Nat.le_refl _) _
  have hW5 : (w3.setCell ⟨Bs, 0, none⟩ (.slice (some ⟨g, 0, none⟩) (n + 1) cap')).heap[w.heap.size]? = some (.cells #[.int .u16 ref, .int .u32 0, .int .u32 0, .int .u32 0, .int .u32 0, .int .u32 0, .int .u32 0, .int .u32 0, .int .u32 0] 55 (0, 0)) := by rw [Below.heap_setCell _ _ _ _ (by show w.heap.size ≠ Bs; omega)]; exact HP.out
  generalize w3.setCell ⟨Bs, 0, none⟩ (.slice (some ⟨g, 0, none⟩) (n + 1) cap') = W at hW1 hW2 hW3 hW4 hW5 ⊢
  clear hvv vv HG HB HP hc3 hf3
  have wp : IntKind.i64.wrap ((pos : Int) + 1) = (pos : Int) + 1 := IntWalk.i64_in _ (by omega)
  have h01 : 0 ≤ (pos : Int) + 1 := by omega
  have h02 : (pos : Int) ≤ (n : Int) + 1 := by omega
  have h03 : pos ≤ n + 1 := by omega
  go_still_tail 11, (by kernel_rfl)
  have hlp : (cellsOf ps).length = n * 9 := by rw [cellsOf_len hg, hn]
  have hld : ((cellsOf ps).drop (pos * 9)).length = (n - pos) * 9 := by rw [List.length_drop, hlp, Nat.sub_mul]
  have hcur : cur = cellsOf ps ++ (zeros9 ++ cur.drop ((n + 1) * 9)) := by
    have := HT.out
    rw [← List.append_assoc, ← this, List.take_append_drop]
  have hlen : cur.length = cap' * 9 := HL.out
  generalize hDP : (if cap' = pos + 1 then some (⟨g, 0, none⟩ : Addr) else some ⟨g, (pos + 1) * 9, none⟩) = DP
  generalize hSP : (if cap' = pos then some (⟨g, 0, none⟩ : Addr) else some ⟨g, pos * 9, none⟩) = SP
  have hone : ∀ u ∈ cellsOf ps, u.oneCell' = true := cellsOf_one ps
  refine Row.wpList_copy_s rfl (.tmp 19) (.tmp 24) 40 40 rfl 55 9 rfl rfl _ _ _ _ _ _ rfl rfl g ((pos + 1) * 9) cur 55 hW3 ((cellsOf ps).drop (pos * 9)) ?_ ?_ ?_ ?_ Bs w hW4.drew (by omega) ?_
  · rw [hld]; congr 1; simp only [Nat.min_def]; split <;> omega
  · intro h0
    have h00 : pos < n := by simp only [Nat.min_def] at h0; split at h0 <;> omega
    refine ⟨by rw [← hDP, if_neg (by omega)], ⟨g, pos * 9, none⟩, by rw [← hSP, if_neg (by omega)], fun j x hj => ?_⟩
    rw [Addr.add_lit]
    refine (cell_in (w := W.drew) (g := g) (cur := cur.toArray) (t := 55) (j := pos * 9 + j) hW3).trans ?_
    rw [List.getElem?_drop] at hj
    have : pos * 9 + j < (cellsOf ps).length := (List.getElem?_eq_some_iff.mp hj).1
    simp only [List.getElem?_toArray]
    rw [hcur, List.getElem?_append_left this]
    exact hj
  · rw [hld, hlen]
    have : (n - pos) * 9 + (pos + 1) * 9 = (n + 1) * 9 := by rw [← Nat.add_mul]; congr 1; omega
    have : (n + 1) * 9 ≤ cap' * 9 := Nat.mul_le_mul_right _ hcap
    omega
  · exact fun u hu => hone u (List.mem_of_mem_drop hu)
  intro w5 k hw1 hw2 hw3 hw4
  have hV1 : w5.cell? ⟨Bs, 0, none⟩ = some (.slice (some ⟨g, 0, none⟩) (n + 1) cap') := (World.cell?_of_block (hw2.out Bs hBg)).trans hW1
  have hV2 : w5.frozen? ⟨Bs, 0, none⟩ = false := (World.frozen?_of_block (hw2.out Bs hBg)).trans hW2
  have hV5 : w5.heap[w.heap.size]? = some (.cells #[.int .u16 ref, .int .u32 0, .int .u32 0, .int .u32 0, .int .u32 0, .int .u32 0, .int .u32 0, .int .u32 0, .int .u32 0] 55 (0, 0)) := (hw2.out _ hgw.symm).trans hW5
  have HCUR := Lib.hid hcur
  clear hW1 hW2 hW3 hW4 hW5 hw2 hw4 hDP hSP hcur hlen
  go_wp2
  obtain ⟨hq0, hq1, hq2, hq3, hq4, hq5, hq6, hq7, hq8⟩ := page_cells hV5
  have HV5 := Lib.hid hV5
  clear hV5
  have hix : pos < n + 1 := by omega
  have hix2 : (pos : Int) < (n : Int) + 1 := by omega
  go_still_tail 6, (by kernel_rfl)
  have hlp2 : (splice cur ((pos + 1) * 9) ((cellsOf ps).drop (pos * 9))).length = cur.length := by
    apply length_splice
    rw [hld, HL.out]
    have : (n - pos) * 9 + (pos + 1) * 9 = (n + 1) * 9 := by rw [← Nat.add_mul]; congr 1; omega
    have : (n + 1) * 9 ≤ cap' * 9 := Nat.mul_le_mul_right _ hcap
    omega
  refine Row.wpList_store_s rfl 55 (.tmp 31) (.tmp 30) rfl g (pos * 9) (zeroP ref).cells rfl rfl rfl _ 55 hw1.out ?_ (one_zero ref) Bs w hw3.drew (by omega) ?_
  · rw [hlp2, HL.out]
    have : (zeroP ref).cells.length = 9 := rfl
    have : (pos + 1) * 9 ≤ cap' * 9 := Nat.mul_le_mul_right _ (by omega)
    omega
  intro w6 hx1 hx2 hx3 hx4
  have hfin : splice (splice cur ((pos + 1) * 9) ((cellsOf ps).drop (pos * 9))) (pos * 9) (zeroP ref).cells = cellsOf (ps.take pos ++ zeroP ref :: ps.drop pos) ++ cur.drop ((n + 1) * 9) := by
    have e1 : (cellsOf (ps.take pos)).length = pos * 9 := by rw [← cellsOf_take hg pos (by omega), List.length_take, hlp]; exact Nat.min_eq_left (Nat.mul_le_mul_right _ hpos)
    have := Row.splice_in (X1 := cellsOf (ps.take pos)) (X2 := cellsOf (ps.drop pos)) (Z := zeros9) (R := cur.drop ((n + 1) * 9)) (pg := (zeroP ref).cells) rfl
    rw [← List.append_assoc (cellsOf (ps.take pos)), ← cellsOf_append, List.take_append_drop] at this
    rw [e1] at this
    rw [cellsOf_append, List.append_assoc]
    have e2 : cellsOf (zeroP ref :: ps.drop pos) = (zeroP ref).cells ++ cellsOf (ps.drop pos) := by unfold cellsOf; rw [List.flatMap_cons]
    rw [e2, List.append_assoc, ← this, cellsOf_drop hg pos (by omega), ← HCUR.out, show (zeroP ref).cells.length = 9 from rfl, Nat.add_mul, Nat.one_mul]
  have hlen6 : (cellsOf (ps.take pos ++ zeroP ref :: ps.drop pos)).length = (n + 1) * 9 := by
    have hgg : Good (ps.take pos ++ zeroP ref :: ps.drop pos) := by
      intro p hp
      rcases List.mem_append.mp hp with h | h
      · exact hg p (List.mem_of_mem_take h)
      rcases List.mem_cons.mp h with h | h
      · subst h; exact ⟨rfl, by simp [zeroP], href⟩
      · exact hg p (List.mem_of_mem_drop h)
    rw [cellsOf_len hgg]
    congr 1
    simp
    omega
  have hrow : w6.heap[g]? = some (.cells (cellsOf (ps.take pos ++ zeroP ref :: ps.drop pos) ++ cur.drop ((n + 1) * 9)).toArray 55 (0, 0)) := hfin ▸ hx1.out
  have hqs : (ps.take pos ++ zeroP ref :: ps.drop pos).length = n + 1 := by simp; omega
  have hkept : w6.heap[Bs]? = w5.heap[Bs]? := hx2.out Bs hBg
  have H6 : Holds Bs base (ps.take pos ++ zeroP ref :: ps.drop pos) w6 (.slice (some ⟨g, 0, none⟩) (n + 1) cap') := by
    refine ⟨(World.cell?_of_block hkept).trans hV1, (World.frozen?_of_block hkept).trans hV2, ?_, hB, Nat.le_trans hbase hx3.size⟩
    rw [hqs]
    refine ⟨hlen6, .inr ⟨g, cap', _, rfl, hgb, hrow, hcap, hmax, ?_, ?_⟩⟩
    · rw [← hfin]
      simp only [List.size_toArray]
      rw [length_splice, hlp2, HL.out]
      rw [hlp2, HL.out]
      have : (zeroP ref).cells.length = 9 := rfl
      have : (pos + 1) * 9 ≤ cap' * 9 := Nat.mul_le_mul_right _ (by omega)
      omega
    · rw [List.toList_toArray, ← hlen6, List.take_left']
      rfl
  clear hq0 hq1 hq2 hq3 hq4 hq5 hq6 hq7 hq8 hrow hfin hlen6 hkept hqs
  go_wp2
  go_end0
  exact ⟨rfl, _, H6, hx3⟩
end Go.Proofs.Ytpmlofllkhpihaa.Rs
