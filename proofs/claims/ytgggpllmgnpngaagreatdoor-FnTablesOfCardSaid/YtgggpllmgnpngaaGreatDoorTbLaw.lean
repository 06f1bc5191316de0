/- The law, walked, over what the two makers give. -/
import Derived.Test.YtgggpllmgnpngaaGreatDoorTbPut
import Derived.Test.YtgggpllmgnpngaaGreatDoorTbFileR
import Derived.Deep.MidRow
namespace Go.Proofs.YtgggpllmgnpngaaGreatDoor.Tb
open Go Go.RowKit

def Bytes5 (w : World) (e : Ending) (w' : World) : Prop :=
  ∃ (B N cap : Nat) (bs : List Nat) (ln : Nat → Nat), e = .returned (.tuple #[.slice (some ⟨B, 0, none⟩) N cap, .bool true]) ∧ InMem B N cap bs w' ∧ Dir bs (offs ln) ln ∧ (∀ i, i < 8 → 0 < ln i) ∧ Below w.heap.size w w'

theorem below_setCells {B b : Nat} {w : World} (hb : B ≤ b) : ∀ (vs : List Value) (o : Nat) (W : World), Below B w W → Below B w (W.setCells b o vs)
  | [], _, _, h => h
  | v :: r, o, W, h => by
    rw [World.setCells]
    exact below_setCells hb r (o + 1) _ (h.setCell hb v)

theorem InMem.later {B N cap : Nat} {bs : List Nat} {w w' : World} (h : InMem B N cap bs w) (k : Below w.heap.size w w') : InMem B N cap bs w' :=
  ⟨h.len, h.byte, fun j b hb => below_cell k (h.cell j b hb), h.room, Nat.lt_of_lt_of_le h.low k.size⟩
theorem strs_at (w : World) : ∀ i, i < 8 → (w.alloc (.cells #[.string ⟨#[79, 83, 47, 50]⟩, .string ⟨#[99, 109, 97, 112]⟩, .string ⟨#[104, 101, 97, 100]⟩, .string ⟨#[104, 104, 101, 97]⟩, .string ⟨#[104, 109, 116, 120]⟩, .string ⟨#[109, 97, 120, 112]⟩, .string ⟨#[110, 97, 109, 101]⟩, .string ⟨#[112, 111, 115, 116]⟩] 9)).cell? ⟨w.heap.size, i, none⟩ = some (.string (tag i)) := fun i hi => by
  rw [cell_in (heap_alloc_new w _)]
  match i, hi with
  | 0, _ => rfl
  | 1, _ => rfl
  | 2, _ => rfl
  | 3, _ => rfl
  | 4, _ => rfl
  | 5, _ => rfl
  | 6, _ => rfl
  | 7, _ => rfl

theorem there_new (w : World) (zs : Array Value) (t : TypeId) (n : Nat) (hn : n ≤ zs.size) : (w.alloc (.cells zs t)).there w.heap.size 0 n := fun j hj => by
  have h := heap_alloc_new w (.cells zs t)
  rw [Nat.zero_add]
  refine ⟨?_, frozen_in h⟩
  rw [cell_in h]
  simp
  omega

set_option maxRecDepth 1000000 in
set_option maxHeartbeats 8000000 in
theorem law_any (n0 n1 n3 c0 c1 c3 x : Nat) (A0 A1 A3 : Option Addr) (w : World) (hx : x < 256)
    (h4 : Calls Tryz.prog 4 #[.slice A0 n0 c0, .slice A1 n1 c1, .slice none 0 0, .int .u8 0, .slice none 0 0, .slice none 0 0] w (Filed w))
    (h5 : n3 ≤ 2147483647 → ∀ (M : Nat → Int) (b7 b16 b17 : Bool) (G k cap : Nat) (W : World), Lims M → 0 < k → k ≤ 40 → k ≤ cap → cap ≤ 9223372036854775807 → AdvAt G k W → Below w.heap.size w W → Calls Tryz.prog 5 #[.agg (fileCells M b7 b16 b17 (.slice (some ⟨G, 0, none⟩) k cap) (.int .i64 1)), .slice A3 n3 c3] W (Bytes5 W)) :
    Calls Tryz.prog 3 #[.slice A0 n0 c0, .slice A1 n1 c1, .int .u8 (x : Nat), .slice A3 n3 c3] w fun e w' => e = .returned (.bool true) ∧ Below w.heap.size w w' := by
  have H4 := Lib.hid h4
  have H5 := Lib.hid h5
  clear h4 h5
  by_cases g0 : 2147483647 < n0
  · have g0' : (2147483647 : Int) < n0 := by omega
    go_enter Tryz.func3, Tryz.ntmps3
    go_wp2_with fail
    go_ret
    exact ⟨rfl, Below.refl _ _⟩
  by_cases g1 : 2147483647 < n1
  · have g0' : ¬ (2147483647 : Int) < n0 := by omega
    have g1' : (2147483647 : Int) < n1 := by omega
    go_enter Tryz.func3, Tryz.ntmps3
    go_wp2_with fail
    go_ret
    exact ⟨rfl, Below.refl _ _⟩
  by_cases g3 : 2147483647 < n3
  · have g0' : ¬ (2147483647 : Int) < n0 := by omega
    have g1' : ¬ (2147483647 : Int) < n1 := by omega
    have g3' : (2147483647 : Int) < n3 := by omega
    go_enter Tryz.func3, Tryz.ntmps3
    go_wp2_with fail
    go_ret
    exact ⟨rfl, Below.refl _ _⟩
  have g0' : ¬ (2147483647 : Int) < n0 := by omega
  have g1' : ¬ (2147483647 : Int) < n1 := by omega
  have g3' : ¬ (2147483647 : Int) < n3 := by omega
  have H5' := Lib.hid (H5.out (by omega))
  clear g0 g1 g3 H5
  go_enter Tryz.func3, Tryz.ntmps3
  go_wp2_with fail
  with_reducible refine H4.out.mono ?_
  rintro e w1 ⟨M, b7, b16, b17, G, k, cap, rfl, q1, q2, q3, q4, q5, q6, q7⟩
  obtain ⟨cs, hcs⟩ : ∃ cs : List Value, cs.toArray = fileCells M b7 b16 b17 (.slice (some ⟨G, 0, none⟩) k cap) (.int .i64 1) := ⟨(fileCells M b7 b16 b17 (.slice (some ⟨G, 0, none⟩) k cap) (.int .i64 1)).toList, by simp⟩
  have hlen : cs.length = 36 := by
    have := congrArg Array.size hcs
    simpa [fileCells] using this
  have hone : cs.toArray.all (·.oneCell') = true := by rw [hcs]; simp [fileCells, Value.oneCell']
  have HC := Lib.hid (fun W (hb : Below w1.heap.size w1 W) => show Calls Tryz.prog 5 #[.agg cs.toArray, .slice A3 n3 c3] W (Bytes5 W) from by
    rw [hcs]
    exact H5'.out M b7 b16 b17 G k cap W q1 q2 q3 q4 q5 (q6.later hb) (q7.trans (hb.mono q7.size)))
  have HB := Lib.hid q7
  rw [← hcs]
  have HS := Lib.hid (And.intro hlen hone)
  have hsize : (Tryz.prog.info? 35).map (·.size) = some 36 := by kernel_rfl
  have HZ := Lib.hid hsize
  clear q1 q2 q3 q4 q5 q6 q7 H5' H4 hcs hlen hone hsize
  go_wp2_with (first
    | (refine wpList_store_mid (by rfl) 35 (.tmp 9) (.tmp 38) rfl w1.heap.size 0 cs.toArray (by rfl) (by rfl) ?_ (by rw [HZ.out, List.size_toArray, HS.out.1]) HS.out.2 ?_)
    | (refine wpList_load_mid (by rfl) 35 (.tmp 9) rfl w1.heap.size 0 (by rfl) cs _ ?_ Tryz.underlying35 (by rfl) (by rw [HZ.out, HS.out.1]) ?_))
  · exact there_new _ _ _ _ (by rw [List.size_toArray, HS.out.1]; decide)
  · exact World.rangeAt_setCells_same _ _ _ _ (there_new _ _ _ _ (by rw [HS.out.1]; decide))
  · have hb2 : Below w1.heap.size w1 ((w1.alloc (.cells zeroFile 35)).setCells w1.heap.size 0 cs) := below_setCells (Nat.le_refl _) _ _ _ ((Below.refl _ _).alloc (Nat.le_refl _) _)
    have HB2 := Lib.hid hb2
    clear hb2
    refine (HC.out _ HB2.out).mono ?_
    rintro e w2 ⟨B, N, cp, bs, ln, rfl, p1, p2, p3, p4⟩
    have HP := Lib.hid (And.intro p1 (And.intro p2 (And.intro p3 p4)))
    clear p1 p2 p3 p4 HC HS HZ
    obtain ⟨i, hi8, hix⟩ : ∃ i, i < 8 ∧ i = x % 8 := ⟨x % 8, by omega, rfl⟩
    have htm : Int.tmod (x : Int) 8 = i := by rw [Int.tmod_eq_emod_of_nonneg (by omega)]; omega
    clear hix
    go_upto_region 8 with fail
    obtain ⟨w3, hw3⟩ : ∃ w3, w3 = w2.alloc (.cells #[.string ⟨#[79, 83, 47, 50]⟩, .string ⟨#[99, 109, 97, 112]⟩, .string ⟨#[104, 101, 97, 100]⟩, .string ⟨#[104, 104, 101, 97]⟩, .string ⟨#[104, 109, 116, 120]⟩, .string ⟨#[109, 97, 120, 112]⟩, .string ⟨#[110, 97, 109, 101]⟩, .string ⟨#[112, 111, 115, 116]⟩] 9) := ⟨_, rfl⟩
    obtain ⟨X, hX⟩ : ∃ X, X = w2.heap.size := ⟨_, rfl⟩
    have hst : ∀ i, i < 8 → w3.cell? ⟨X, i, none⟩ = some (.string (tag i)) := fun i hi => by rw [hw3, hX]; exact strs_at w2 i hi
    have hb3 : Below w2.heap.size w2 w3 := by rw [hw3]; exact (Below.refl _ _).alloc (Nat.le_refl _) _
    rw [← hw3, ← hX]
    have H3 := Lib.hid (And.intro hst (And.intro hb3 (HP.out.1.later hb3)))
    have ci := hst i hi8
    have HI := Lib.hid (impl_tag B N cp i bs (offs ln) ln w3 HP.out.2.1 HP.out.2.2.1 H3.out.2.2 hi8)
    obtain ⟨ti, hti⟩ : ∃ t, t = tag i := ⟨_, rfl⟩
    rw [← hti] at ci HI
    have HTI := Lib.hid hti
    have i8 : (i : Int) < 8 := by omega
    clear hst hb3 hw3 hX hti
    go_wp2_with fail
    with_reducible refine HI.out.mono ?_
    rintro e w4 ⟨v, y, rfl, t1, t2⟩
    obtain ⟨Y, rfl, t3⟩ := t2 rfl
    obtain ⟨g, capg, curg, rfl, _⟩ := own_form t1.own (by omega)
    have HT := Lib.hid (And.intro t1 t3)
    have HE := Lib.hid (eqs_any g X 8 capg 8 tag w4 (by omega) (fun j hj => by
      rw [t1.own.cellAt j (by omega)]
      rw [List.getElem?_map, List.getElem?_range (by omega)]
      rfl) (fun j hj => below_cell t1.below (H3.out.1 j hj)))
    clear t1 t2 t3 HI
    go_wp2_with fail
    with_reducible refine HE.out.mono ?_
    rintro e w5 ⟨rfl, q5, hw5⟩
    have hb35 : Below w3.heap.size w3 w5 := by rw [hw5]; exact below_drewN HT.out.1.below q5
    have H5 := Lib.hid (And.intro hb35 hw5)
    have ci5 := below_cell hb35 ci
    have HIN := Lib.hid (in_any B N cp i bs (offs ln) ln w5 HP.out.2.1 HP.out.2.2.1 (H3.out.2.2.later hb35) hi8)
    rw [← HTI.out] at HIN
    clear hb35 hw5 HE ci
    go_wp2_with fail
    with_reducible refine HIN.out.mono ?_
    rintro e w6 ⟨rfl, hb6⟩
    have hb36 : Below w3.heap.size w3 w6 := H5.out.1.trans (hb6.mono H5.out.1.size)
    have H6 := Lib.hid (And.intro hb6 hb36)
    have HZZ := Lib.hid (impl_zz B N cp bs (offs ln) ln w6 HP.out.2.1 (H3.out.2.2.later hb36))
    clear hb6 hb36 HIN ci5
    go_wp2_with fail
    with_reducible refine HZZ.out.mono ?_
    rintro e w7 ⟨v7, y7, rfl, t7, _⟩
    have hb47 : Below w4.heap.size w4 w7 := by
      have a1 : Below w4.heap.size w4 w5 := by rw [H5.out.2]; exact below_drewN (Below.refl _ _) q5
      have a2 := a1.trans (H6.out.1.mono a1.size)
      exact a2.trans (t7.below.mono a2.size)
    have hb37 : Below w3.heap.size w3 w7 := HT.out.1.below.trans (hb47.mono HT.out.1.below.size)
    have hfit := HP.out.2.1.fit i hi8
    have hbl := HP.out.1.len
    have hN := HP.out.1.room
    have hY : Y < w4.heap.size := (Array.getElem?_eq_some_iff.1 HT.out.2).1
    have HQ := Lib.hid (eqb_any Y B (ln i) (offs ln i) (ln i) (cp - offs ln i) (fun j => ((bs.getD (offs ln i + j) 0 : Nat) : Int)) w7 (by omega) (fun j hj => by
      have hb := List.getElem?_eq_getElem (l := bs) (i := offs ln i + j) (by omega)
      have hc : w4.cell? ⟨Y, j, none⟩ = some (.int .u8 ((bs.getD (offs ln i + j) 0 : Nat) : Int)) := by
        rw [cell_in HT.out.2]
        rw [List.getD_eq_getElem?_getD, hb]
        simpa using taken_cell hj hb
      exact below_cell hb47 hc) (fun j hj => by
      have hb := List.getElem?_eq_getElem (l := bs) (i := offs ln i + j) (by omega)
      rw [List.getD_eq_getElem?_getD, hb]
      exact below_cell hb37 (H3.out.2.2.cell _ _ hb)))
    have HF := Lib.hid hb37
    clear hb47 hb37 hfit hbl hN hY t7 HZZ
    go_wp2_with fail
    with_reducible refine HQ.out.mono ?_
    rintro e w8 ⟨rfl, q8, hw8⟩
    have hfin : Below w.heap.size w w8 := by
      have a1 := HB.out.trans (HB2.out.mono HB.out.size)
      have a2 := a1.trans (HP.out.2.2.2.mono a1.size)
      have a3 := a2.trans (H3.out.2.1.mono a2.size)
      have a4 := a3.trans (HF.out.mono a3.size)
      rw [hw8]
      exact below_drewN a4 q8
    have HFIN := Lib.hid hfin
    clear hfin hw8
    go_wp2_with fail
    go_ret
    exact ⟨rfl, HFIN.out⟩
end Go.Proofs.YtgggpllmgnpngaaGreatDoor.Tb
