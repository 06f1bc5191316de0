/- Ten noughts behind a row of bytes. -/
import Derived.Test.YtgggpllmgnpngaaGreatDoorTbPost
import Derived.Lib.AppendZerosOnto
namespace Go.Proofs.YtgggpllmgnpngaaGreatDoor.Tb
open Go Go.RowKit

def ten : List Value := List.replicate 10 (Value.int .u8 0)
theorem ten_len : ten.length = 10 := rfl
theorem ten_cells : ten = byteCells (List.replicate 10 0) := rfl
theorem ten_one : ∀ v ∈ ten, v.oneCell' = true := by
  intro v hv
  unfold ten at hv
  rw [List.eq_of_mem_replicate hv]; rfl
theorem zero_ten : (Builtin.zeroCells (Value.int .u8 0).cells 10).toList = ten := by kernel_rfl
theorem zero_ten' : Builtin.zeroCells (Value.int .u8 0).cells 10 = ten.toArray := by
  rw [← zero_ten]

theorem run_zeros_room (w : World) (ty : TypeId) (g n cap : Nat) (cur : Array Value) (hg : w.heap[g]? = some (.cells cur 5 (0, 0))) (hroom : n + 10 ≤ cap) (hfit : n + 10 ≤ cur.size) :
    (Builtin.append_ #[24, 3] ty #[.slice (some ⟨g, 0, none⟩) n cap, .int .i64 10]).run Tryz.prog w = .ok (.slice (some ⟨g, 0, none⟩) (n + 10) cap) (w.setRow g (cur.toList.take n ++ ten ++ cur.toList.drop (n + 10)).toArray) := by
  obtain ⟨i0, hi, hz0, hz1, hz2⟩ := info_parts info5
  have hst := run_storeCells_at Tryz.prog g n 5 ten 0 cur w hg (by rw [ten_len]; simpa using hfit) ten_one
  simp only [Nat.add_zero, ten_len] at hst
  have hw : IntKind.i64.wrap (10 : Int) = 10 := by decide
  have h48i : ¬ (281474976710656 < (10 : Int)) := by omega
  simp [Builtin.append_, run_underlying Tryz.underlying24, run_underlying Tryz.underlying3, sizeOf, typeInfo, zeroValue, hi, hz0, hz1, hz2, asInt, asIntOf, hw, hroom, Addr.add_lit, zero_ten, hst, Result.andThen]

theorem run_zeros (w : World) (base n : Nat) (ty : TypeId) (v : Value) (xs : List Value) (h0 : 0 < n) (hn : n ≤ 100000) (hown : w.ownsRow base 5 1 v n xs) (hbase : base ≤ w.heap.size) :
    ∃ v' w', (Builtin.append_ #[24, 3] ty #[v, .int .i64 10]).run Tryz.prog w = .ok v' w' ∧ w'.ownsRow base 5 1 v' (n + 10) (xs ++ ten) ∧ w.grownBy w' v.ownBlock ∧ (v'.ownBlock = v.ownBlock ∨ v'.ownBlock = some w.heap.size) := by
  obtain ⟨i0, hi, hz0, hz1, hz2⟩ := info_parts info5
  have hxl : xs.length = n := by simpa using hown.1
  have hlen : (xs ++ ten).length = (n + 10) * 1 := by rw [List.length_append, hxl, ten_len, Nat.mul_one]
  rcases hown.2 with ⟨rfl, rfl⟩ | ⟨g, cap, cur, rfl, hbg, hg, hnc, hcm, hcs, htake⟩
  · omega
  · by_cases hroom : n + 10 ≤ cap
    · have hcs' : cur.size = cap := by simpa using hcs
      refine ⟨_, _, run_zeros_room w ty g n cap cur hg hroom (by omega), ⟨hlen, .inr ⟨g, cap, _, rfl, hbg, setRow_heap w g cur _ 5 _ hg, hroom, hcm, ?_, ?_⟩⟩, ⟨rfl, rfl, rfl, by simp, fun k _ hk => setRow_other w g k _ (fun e => hk (by simp [Value.ownBlock, e]))⟩, .inl rfl⟩
      · simp only [List.size_toArray, List.length_append, List.length_take, List.length_drop, Array.length_toList, ten_len]
        omega
      · have ht' : cur.toList.take n = xs := by simpa using htake
        rw [ht', ← hlen]
        exact List.take_left
    · have holds : ∀ j u, xs[j]? = some u → w.drew.cell? ((⟨g, 0, none⟩ : Addr).add j) = some u := fun j u hu => hown.cells (g := g) rfl j u hu
      have hfo := run_firstCells_some (P := Tryz.prog) w.drew i0.size n ⟨g, 0, none⟩ n cap xs (by rw [hz1]; simpa using hxl) holds
      have hcm' : cap ≤ 9223372036854775807 := by unfold maxLen at hcm; omega
      have hr := Lib.run_append_grow_zeros (P := Tryz.prog) w 24 3 ty 5 i0 (.int .u8 0) .i64 .i64 Tryz.underlying24 Tryz.underlying3 hi hz0 (some ⟨g, 0, none⟩) n cap xs hfo 10 (by omega) (by omega) (by omega) (by omega) (by rw [hz2]; omega) (by rw [hz2]; exact growslice_fits (by omega) (by omega))
      have hge := grownCap_ge w (n + 10) cap 5
      have hcm2 : grownCap w (n + 10) cap 5 ≤ maxLen := grownCap_le_maxLen w (n + 10) cap 5 (by unfold maxLen; omega)
      rw [zero_ten'] at hr
      refine ⟨_, _, hr, ⟨hlen, .inr ⟨w.heap.size, _, _, rfl, hbase, heap_alloc_new w.drew _, hge, hcm2, ?_, ?_⟩⟩, ⟨rfl, rfl, rfl, by simp, fun k hk _ => heap_alloc_old w.drew _ (by simpa using hk)⟩, .inr rfl⟩
      · have hz1' : (Value.int IntKind.u8 0).cells.size = 1 := rfl
        simp only [Array.size_append, List.size_toArray, size_zeroCells, hz1', hxl, ten_len]
        omega
      · simp only [Array.toList_append, List.append_assoc]
        rw [← List.append_assoc, ← hlen]
        exact List.take_left

theorem wpList_zeros {w : World} {ops : Array Oper} {rest : List Oper} {o : Oper} {a : Act} {Q : Exit → Act → World → Prop} (hgd : o.guard = none) (s x : Operand)
    (ho : o.op = .call { callee := .builtin .append, args := #[s, x], argTypes := #[24, 3] }) (base n : Nat) (v : Value) (xs : List Value) (hs : a.eval s = v) (hx : a.eval x = .int .i64 10) (h0 : 0 < n) (hn : n ≤ 100000) (hown : w.ownsRow base 5 1 v n xs) (hbase : base ≤ w.heap.size)
    (h : ∀ v' w', w'.ownsRow base 5 1 v' (n + 10) (xs ++ ten) → w.grownBy w' v.ownBlock → (v'.ownBlock = v.ownBlock ∨ v'.ownBlock = some w.heap.size) → wpList Tryz.prog ops Q rest (a.put o.dst v') w') : wpList Tryz.prog ops Q (o :: rest) a w := by
  obtain ⟨v', w', hr, h2, h3, h4⟩ := run_zeros w base n o.type v xs h0 hn hown hbase
  exact Lib.wpList_append_run w hgd s x 24 3 ho v _ hs hx v' w' hr (h v' w' h2 h3 h4)
end Go.Proofs.YtgggpllmgnpngaaGreatDoor.Tb
