/- A subtable made of what was parsed, walked. -/
import Derived.Test.YtkfgmjcdaggjcaaKpFind
namespace Go.Proofs.Ytkfgmjcdaggjcaa.Kp
open Go Go.RowKit

theorem pair_any (G n a b : Nat) (l : List Tri) (w : World) (hl : l.length = n) (hn60 : n ≤ 60) (ha : a < 40) (hb : b < 40) (hok : ∀ x ∈ l, Tri.Ok x) (hs : Str l) (hG : G < w.heap.size) (hp : PairsAt w G l) :
    Calls Try.prog 75 #[.slice (some ⟨G, 0, none⟩) n n, .int .u32 a, .int .u32 b] w fun e w' => (∃ v, e = .returned (.int .i16 v) ∧ Answer l a b v) ∧ Below w.heap.size w w' := by
  have H := Lib.hid (find_any G n a b l w hl hn60 ha hb hok hs hG hp)
  clear hl hok hs hp
  go_enter Try.func75, Try.ntmps75
  go_wp2_with fail
  refine H.out.mono ?_
  rintro e w1 ⟨⟨v, rfl, hv⟩, hb1⟩
  have HV := Lib.hid (And.intro hv hb1)
  clear hv hb1
  go_wp2
  go_ret
  exact ⟨⟨v, rfl, HV.out.1⟩, HV.out.2⟩

theorem data_any (L n h1 h2 h3 G : Nat) (w : World) :
    Calls Try.prog 67 #[headVal L n h1 h2 h3 G] w fun e w' => e = .returned (.iface 92 (dataVal n h1 h2 h3 G)) ∧ Below w.heap.size w w' := by
  obtain ⟨dv, hdv⟩ : ∃ dv, dv = dataVal n h1 h2 h3 G := ⟨_, rfl⟩
  unfold headVal
  rw [← hdv]
  have hb : Below w.heap.size w (w.alloc (.cells #[.int .u16 0, .int .u16 (L : Nat), .int .u8 0, .int .u8 1, .iface 92 dv] 77)) := (Below.refl _ _).alloc (Nat.le_refl _) _
  have HB := Lib.hid hb
  clear hb hdv
  go_enter Try.func67, Try.ntmps67
  go_wp2
  go_ret
  exact ⟨rfl, HB.out⟩

theorem kern0_any (n h1 h2 h3 G : Nat) (w : World) :
    Calls Try.prog 31 #[dataVal n h1 h2 h3 G] w fun e w' => e = .returned (.slice (some ⟨G, 0, none⟩) n n) ∧ Below w.heap.size w w' := by
  unfold dataVal
  have hb : Below w.heap.size w (w.alloc (.cells #[.int .u16 (n : Nat), .int .u16 (h1 : Nat), .int .u16 (h2 : Nat), .int .u16 (h3 : Nat), .slice (some ⟨G, 0, none⟩) n n] 92)) := (Below.refl _ _).alloc (Nat.le_refl _) _
  have HB := Lib.hid hb
  clear hb
  go_enter Try.func31, Try.ntmps31
  go_wp2
  go_ret
  exact ⟨rfl, HB.out⟩

theorem results_1 {fn : Func} {t : Tmp} {ty : TypeId} (h : fn.results = #[.cell t ty]) (tmps : Array Value) (P : Program) (w : World) (ad : Addr) (x : Value) (ht : tmps.getD t undef = .pointer (some ad)) (hl : (loadVar ty ad).run P w = .ok x w) :
    (results fn tmps).run P w = .ok x w := by
  have ht' : tmps[t]?.getD undef = .pointer (some ad) := by simpa using ht
  simp [results, h, ht', asAddr, hl]

set_option maxRecDepth 1000000 in
set_option maxHeartbeats 2000000 in
theorem sub_any (L n h1 h2 h3 G : Nat) (w : World) :
    Calls Try.prog 23 #[.iface 77 (headVal L n h1 h2 h3 G)] w fun e w' => e = .returned (.agg #[.iface 121 (.slice (some ⟨G, 0, none⟩) n n), .int .u8 0, .bool false, .int .i64 0]) ∧ Below w.heap.size w w' := by
  have HD := Lib.hid (fun W => data_any L n h1 h2 h3 G W)
  have HK := Lib.hid (fun W => kern0_any n h1 h2 h3 G W)
  obtain ⟨dv, hdv⟩ : ∃ dv, dv = dataVal n h1 h2 h3 G := ⟨_, rfl⟩
  unfold headVal at HD ⊢
  rw [← hdv] at HD HK ⊢
  have hta1 : ∀ (v : Value) (W : World), (Instr.typeAssert (.iface 77 v) 81 77 true).run Try.prog W = .ok (.tuple #[v, .bool true]) W := fun _ _ => by kernel_rfl
  have hta2 : ∀ (v : Value) (W : World), (Instr.typeAssert (.iface 92 v) 75 92 true).run Try.prog W = .ok (.tuple #[v, .bool true]) W := fun _ _ => by kernel_rfl
  have hand1 : bits .and .u8 1 1 = 1 := by decide
  have hand4 : bits .and .u8 1 4 = 0 := by decide
  have hme : ∀ (v : Value) (W : World), (method 294 77 v "Data").run Try.prog W = .ok (67, v) W := fun _ _ => by kernel_rfl
  have HDV := Lib.hid hdv
  clear hdv
  go_enter Try.func23, Try.ntmps23
  go_wp2_with fail
  refine (HD.out _).mono ?_
  rintro e w1 ⟨rfl, hb1⟩
  have e := HDV.out
  unfold dataVal at e
  rw [e] at hb1 HK ⊢
  have hrow : ((w.alloc (.cells #[.nilIface, .int .u8 0, .bool false, .int .i64 0] 49)).alloc (.cells #[.int .u16 0, .int .u16 (L : Nat), .int .u8 0, .int .u8 1, .iface 92 (.agg #[.int .u16 (n : Nat), .int .u16 (h1 : Nat), .int .u16 (h2 : Nat), .int .u16 (h3 : Nat), .slice (some ⟨G, 0, none⟩) n n])] 77)).heap[w.heap.size]? = some (.cells #[.nilIface, .int .u8 0, .bool false, .int .i64 0] 49 (0, 0)) := by
    rw [Below.heap_alloc _ _ _ (by simp)]
    exact heap_alloc_new w _
  have hrow1 := (hb1.block _ (by simp; omega)).trans hrow
  have hbw := ((((Below.refl w.heap.size w).alloc (Nat.le_refl _) (.cells #[.nilIface, .int .u8 0, .bool false, .int .i64 0] 49)).alloc (by simp) (.cells #[.int .u16 0, .int .u16 (L : Nat), .int .u8 0, .int .u8 1, .iface 92 (.agg #[.int .u16 (n : Nat), .int .u16 (h1 : Nat), .int .u16 (h2 : Nat), .int .u16 (h3 : Nat), .slice (some ⟨G, 0, none⟩) n n])] 77)).trans (hb1.mono (by simp; omega)))
  have HBW := Lib.hid hbw
  have HROW1 := Lib.hid hrow1
  have hsz1 : w.heap.size < w1.heap.size := (Array.getElem?_eq_some_iff.1 hrow1).1
  clear e HDV HD hme hrow hrow1 hbw hb1
  go_wp2_with fail
  refine (HK.out _).mono ?_
  rintro e w2 ⟨rfl, hb2⟩
  have hrow2 := (hb2.block _ (by rw [World.size_alloc]; omega)).trans ((Below.heap_alloc _ _ _ (by omega)).trans HROW1.out)
  have HB2 := Lib.hid ((HBW.out.alloc (by omega) _).trans (hb2.mono (by rw [World.size_alloc]; omega)))
  have r0 : w2.cell? ⟨w.heap.size, 0, none⟩ = some .nilIface := by rw [cell_in hrow2]; rfl
  have r1 : w2.cell? ⟨w.heap.size, 1, none⟩ = some (.int .u8 0) := by rw [cell_in hrow2]; rfl
  have r2 : w2.cell? ⟨w.heap.size, 2, none⟩ = some (.bool false) := by rw [cell_in hrow2]; rfl
  have r3 : w2.cell? ⟨w.heap.size, 3, none⟩ = some (.int .i64 0) := by rw [cell_in hrow2]; rfl
  have t0 : w2.frozen? ⟨w.heap.size, 0, none⟩ = false := frozen_in hrow2
  have t1 : w2.frozen? ⟨w.heap.size, 1, none⟩ = false := frozen_in hrow2
  have t2 : w2.frozen? ⟨w.heap.size, 2, none⟩ = false := frozen_in hrow2
  have t3 : w2.frozen? ⟨w.heap.size, 3, none⟩ = false := frozen_in hrow2
  have HROW2 := Lib.hid hrow2
  clear hrow2 hb2
  go_wp2_with fail
  have q0 := set_row (j := 0) (x := .iface 121 (.slice (some ⟨G, 0, none⟩) n n)) HROW2.out
  have q1 := set_row (j := 0) (x := .iface 121 (.slice (some ⟨G, 0, none⟩) n n)) q0
  have q2 := set_row (j := 1) (x := .int .u8 0) q1
  have q3 := set_row (j := 2) (x := .bool false) q2
  have q4 := set_row (j := 3) (x := .int .i64 0) q3
  (try simp only [Exit.inBlock, Exit.then])
  refine bodyPost_ret (results_1 rfl _ _ _ ⟨w.heap.size, 0, none⟩ _ rfl (run_loadVar_row _ _ _ 49 _ _ _ q4 Try.underlying49 rfl (by kernel_rfl))) rfl ?_
  refine ⟨?_, ?_⟩
  · simp
  · exact ((((HB2.out.setCell (Nat.le_refl _) _).setCell (Nat.le_refl _) _).setCell (Nat.le_refl _) _).setCell (Nat.le_refl _) _).setCell (Nat.le_refl _) _
end Go.Proofs.Ytkfgmjcdaggjcaa.Kp
