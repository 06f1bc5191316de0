/- A file's parts made of any numbers, walked. -/
import Derived.Test.YtgggpllmgnpngaaGreatDoorTbFileReg
namespace Go.Proofs.YtgggpllmgnpngaaGreatDoor.Tb
open Go Go.RowKit

def pv4' (A1 : Option Addr) (n1 c1 B F : Nat) (t : Nat) : Value := if t = 15 then pt F 0 else pv4 A1 n1 c1 B t
theorem fr4 (f : Nat → Value) (A1 : Option Addr) (n1 c1 B F : Nat) : ((List.range 207).map fun t => if [1, 2, 3, 4, 5, 6, 12, 13, 14, 15].contains t then pv4' A1 n1 c1 B F t else f t) = [f 0, .slice A1 n1 c1, vnil, .int .u8 0, vnil, vnil, pt B 0, f 7, f 8, f 9, f 10, f 11, pt (B + 1) 0, at10 B, at11, pt F 0, f 16, f 17, f 18, f 19, f 20, f 21, f 22, f 23, f 24, f 25, f 26, f 27, f 28, f 29, f 30, f 31, f 32, f 33, f 34, f 35, f 36, f 37, f 38, f 39, f 40, f 41, f 42, f 43, f 44, f 45, f 46, f 47, f 48, f 49, f 50, f 51, f 52, f 53, f 54, f 55, f 56, f 57, f 58, f 59, f 60, f 61, f 62, f 63, f 64, f 65, f 66, f 67, f 68, f 69, f 70, f 71, f 72, f 73, f 74, f 75, f 76, f 77, f 78, f 79, f 80, f 81, f 82, f 83, f 84, f 85, f 86, f 87, f 88, f 89, f 90, f 91, f 92, f 93, f 94, f 95, f 96, f 97, f 98, f 99, f 100, f 101, f 102, f 103, f 104, f 105, f 106, f 107, f 108, f 109, f 110, f 111, f 112, f 113, f 114, f 115, f 116, f 117, f 118, f 119, f 120, f 121, f 122, f 123, f 124, f 125, f 126, f 127, f 128, f 129, f 130, f 131, f 132, f 133, f 134, f 135, f 136, f 137, f 138, f 139, f 140, f 141, f 142, f 143, f 144, f 145, f 146, f 147, f 148, f 149, f 150, f 151, f 152, f 153, f 154, f 155, f 156, f 157, f 158, f 159, f 160, f 161, f 162, f 163, f 164, f 165, f 166, f 167, f 168, f 169, f 170, f 171, f 172, f 173, f 174, f 175, f 176, f 177, f 178, f 179, f 180, f 181, f 182, f 183, f 184, f 185, f 186, f 187, f 188, f 189, f 190, f 191, f 192, f 193, f 194, f 195, f 196, f 197, f 198, f 199, f 200, f 201, f 202, f 203, f 204, f 205, f 206] := by kernel_rfl

/-- The last two operations. -/
structure Fin4 (A1 : Option Addr) (n1 c1 B F : Nat) (a : Act) : Prop where
  size : a.tmps.size = 207
  defers : a.defers = []
  pre : ∀ t ∈ [1, 2, 3, 4, 5, 6, 12, 13, 14, 15], a.eval (.tmp t) = pv4' A1 n1 c1 B F t
theorem all35 (M : Nat → Int) (b7 b16 b17 : Bool) : (fileCells M b7 b16 b17 vnil (vi 0)).all (·.oneCell') = true := by simp [fileCells, Value.oneCell']
theorem file_region {A1 : Option Addr} {n1 c1 B id : Nat} {a : Act} {w : World} {K : Act → World → Prop} {Q' : Exit → Act → World → Prop} (h0 : Now4 A1 n1 c1 B w 0 a w)
    (HAT : ∀ (i : Int), 0 ≤ i → i < 100 → Calls Tryz.prog 10 #[.int .i64 i, .pointer (some ⟨B, 0, none⟩)] w fun e w' => (∃ x, e = .returned (.int .i64 x) ∧ -8192 ≤ x ∧ x ≤ 8192) ∧ w = w')
    (rest : ∀ (f : Nat → Value) (M : Nat → Int) (b7 b16 b17 : Bool), Lims M → K ⟨((List.range 207).map fun t => if [1, 2, 3, 4, 5, 6, 12, 13, 14, 15].contains t then pv4' A1 n1 c1 B w.heap.size t else f t).toArray, []⟩ ((w.alloc (.cells zeroFile 35)).setRow w.heap.size (fileCells M b7 b16 b17 vnil (vi 0)))) :
    (Code.region id ops4 false).wp Tryz.prog (Exit.then K Q') a w := by
  have hsz : ops4.size = 74 := by kernel_rfl
  refine seq_region (inv := fun i a W => (i ≤ 72 ∧ Now4 A1 n1 c1 B w i a W) ∨ (i = 73 ∧ Fin4 A1 n1 c1 B w.heap.size a ∧ IsFil (a.eval (.tmp 92)) ∧ W = w.alloc (.cells zeroFile 35)) ∨
      (i = 74 ∧ Fin4 A1 n1 c1 B w.heap.size a ∧ ∃ (M : Nat → Int) (b7 b16 b17 : Bool), Lims M ∧ W = (w.alloc (.cells zeroFile 35)).setRow w.heap.size (fileCells M b7 b16 b17 vnil (vi 0)))) hsz (Or.inl ⟨Nat.zero_le _, h0⟩) ?_ ?_
  · intro i hi a W h
    rcases h with ⟨h1, h⟩ | ⟨rfl, h, hfil, rfl⟩ | ⟨rfl, _⟩
    · by_cases e : i < 72
      · exact wpOp_mono (fun a W h => Or.inl ⟨by omega, h⟩) (steps4 HAT i e a W h)
      · have e2 : i = 72 := by omega
        subst e2
        have ho : ops4[72]? = some (P4.at 72) := by
          show ops4[72]? = some (ops4.getD 72 default)
          rw [Array.getD_eq_getD_getElem?, Array.getElem?_eq_getElem (by rw [hsz]; decide)]
          rfl
        have hop : (P4.at 72).op = .alloc 35 := by kernel_rfl
        have hd : (P4.at 72).dst = some 15 := by kernel_rfl
        have hW := h.world
        subst hW
        have hr : (execOp a.eval (P4.at 72)).run Tryz.prog W = .ok (.value (pt W.heap.size 0)) (W.alloc (.cells zeroFile 35)) := by
          have ha : (Instr.alloc 35 true (.tuple #[])).run Tryz.prog W = .ok (pt W.heap.size 0) (W.alloc (.cells zeroFile 35)) := by kernel_rfl
          unfold execOp; rw [hop]; dsimp only
          rw [Sem.run_bind, ha]; rfl
        refine wpOp_of ho (by kernel_rfl) ?_
        unfold Oper.wp
        rw [hr]
        refine Or.inr (Or.inl ⟨rfl, ⟨?_, ?_, ?_⟩, ?_, rfl⟩)
        · rw [put_size]; exact h.size
        · rw [put_defers]; exact h.defers
        · intro t ht
          rw [hd]
          by_cases e : t = 15
          · subst e
            rw [eval_put_same _ _ _ (by rw [h.size]; decide)]
            rfl
          · rw [eval_put_far' _ _ _ _ (fun e2 => e e2.symm)]
            have : t ∈ P4.pre := by
              show t ∈ [1, 2, 3, 4, 5, 6, 12, 13, 14]
              simp only [List.mem_cons, List.not_mem_nil, or_false] at ht
              rcases ht with rfl | rfl | rfl | rfl | rfl | rfl | rfl | rfl | rfl | rfl <;> first | exact absurd rfl e | decide
            rw [h.pre t this]
            unfold pv4'
            rw [if_neg e]
        · rw [hd, eval_put_far' _ _ _ _ (by decide)]
          exact h.done 71 (by decide)
    · have ho : ops4[73]? = some (P4.at 73) := by
        show ops4[73]? = some (ops4.getD 73 default)
        rw [Array.getD_eq_getD_getElem?, Array.getElem?_eq_getElem (by rw [hsz]; decide)]
        rfl
      have hop : (P4.at 73).op = .store 35 (.tmp 15) (.tmp 92) := by kernel_rfl
      have hd : (P4.at 73).dst = none := by kernel_rfl
      obtain ⟨M, b7, b16, b17, hl, e92⟩ := hfil
      refine wpOp_of ho (by kernel_rfl) (wp_store_row 35 (.tmp 15) (.tmp 92) hop w.heap.size _ (h.pre 15 (by decide)) e92 35 zeroFile (heap_alloc_new w _) (by kernel_rfl) rfl (all35 M b7 b16 b17) ?_)
      rw [hd]
      exact Or.inr (Or.inr ⟨rfl, h, M, b7, b16, b17, hl, rfl⟩)
    · omega
  · intro a W h
    rcases h with ⟨h1, _⟩ | ⟨h1, _⟩ | ⟨_, h, M, b7, b16, b17, hl, rfl⟩
    · omega
    · omega
    · have e := frame_known h.size h.defers h.pre
      have := rest (fun t => a.eval (.tmp t)) M b7 b16 b17 hl
      rw [← e] at this
      exact this

/-- The file in memory, and the cells in which it is handed back. -/
structure FileW (w : World) (M : Nat → Int) (b7 b16 b17 : Bool) (adv long : Value) (W : World) : Prop where
  lim : Lims M
  file : W.heap[w.heap.size + 2]? = some (.cells (fileCells M b7 b16 b17 adv long) 35 (0, 0))
  back : W.heap[w.heap.size + 1]? = some (.cells zeroFile 35 (0, 0))
  below : Below w.heap.size w W
theorem FileW.cell {w W : World} {M : Nat → Int} {b7 b16 b17 : Bool} {adv long : Value} (h : FileW w M b7 b16 b17 adv long W) (j : Nat) (v : Value) (hv : (fileCells M b7 b16 b17 adv long)[j]? = some v) : W.cell? ⟨w.heap.size + 2, j, none⟩ = some v := by
  rw [cell_in h.file]; exact hv
theorem FileW.free {w W : World} {M : Nat → Int} {b7 b16 b17 : Bool} {adv long : Value} (h : FileW w M b7 b16 b17 adv long W) (j : Nat) : W.frozen? ⟨w.heap.size + 2, j, none⟩ = false := frozen_in h.file
theorem FileW.later {w W W' : World} {M : Nat → Int} {b7 b16 b17 : Bool} {adv long : Value} (h : FileW w M b7 b16 b17 adv long W) (k : Below (w.heap.size + 3) W W') : FileW w M b7 b16 b17 adv long W' :=
  ⟨h.lim, (k.block _ (by omega)).trans h.file, (k.block _ (by omega)).trans h.back, h.below.trans (k.mono (by omega))⟩
theorem heap_set {W : World} {F j : Nat} {cs : Array Value} {t : TypeId} {v : Value} (h : W.heap[F]? = some (.cells cs t (0, 0))) : (W.setCell ⟨F, j, none⟩ v).heap[F]? = some (.cells (cs.setIfInBounds j v) t (0, 0)) := by
  simp [World.setCell, Array.getElem?_modify, h]
theorem FileW.set {w W : World} {M : Nat → Int} {b7 b16 b17 : Bool} {adv long : Value} (h : FileW w M b7 b16 b17 adv long W) (v : Value) : FileW w M b7 b16 b17 v long (W.setCell ⟨w.heap.size + 2, 28, none⟩ v) :=
  ⟨h.lim, heap_set h.file, by rw [Below.heap_setCell _ _ _ _ (by show w.heap.size + 1 ≠ w.heap.size + 2; omega)]; exact h.back, h.below.setCell (by show w.heap.size ≤ w.heap.size + 2; omega) v⟩
theorem FileW.set2 {w W : World} {M : Nat → Int} {b7 b16 b17 : Bool} {adv long : Value} (h : FileW w M b7 b16 b17 adv long W) (v : Value) : FileW w M b7 b16 b17 adv v (W.setCell ⟨w.heap.size + 2, 29, none⟩ v) :=
  ⟨h.lim, heap_set h.file, by rw [Below.heap_setCell _ _ _ _ (by show w.heap.size + 1 ≠ w.heap.size + 2; omega)]; exact h.back, h.below.setCell (by show w.heap.size ≤ w.heap.size + 2; omega) v⟩
end Go.Proofs.YtgggpllmgnpngaaGreatDoor.Tb

namespace Go.Proofs.YtgggpllmgnpngaaGreatDoor.Tb
open Go Go.RowKit

theorem FileW.grow {w wr w1 : World} {M : Nat → Int} {b7 b16 b17 : Bool} {v long : Value} {n : Nat} {xs : List Value} {o : Obj} (h : FileW w M b7 b16 b17 v long wr) (hown : wr.ownsRow (w.heap.size + 3) 3 1 v n xs) (hg : (wr.alloc o).drew.grownBy w1 v.ownBlock) :
    FileW w M b7 b16 b17 v long w1 := by
  have hF : w.heap.size + 2 < wr.heap.size := (Array.getElem?_eq_some_iff.1 h.file).1
  have hsz : (wr.alloc o).drew.heap.size = wr.heap.size + 1 := World.size_alloc wr o
  have hno : ∀ q, q ≤ w.heap.size + 2 → some q ≠ v.ownBlock := fun q hq e => by have := (hown.lt q e.symm).1; omega
  have hblk : ∀ q, q ≤ w.heap.size + 2 → w1.heap[q]? = wr.heap[q]? := fun q hq => (hg.block q (by omega) (hno q hq)).trans (Below.heap_alloc wr o q (by omega))
  have hs := hg.size
  refine ⟨h.lim, (hblk _ (by omega)).trans h.file, (hblk _ (by omega)).trans h.back, hg.os.trans h.below.os, hg.tape.trans h.below.tape, hg.output.trans h.below.output, by have := h.below.size; omega, fun q hq => (hblk q (by omega)).trans (h.below.block q hq)⟩

theorem FileW.mid {w wr w1 : World} {M : Nat → Int} {b7 b16 b17 : Bool} {v long : Value} {n : Nat} {xs : List Value} {o : Obj} (h : FileW w M b7 b16 b17 v long wr) (hown : wr.ownsRow (w.heap.size + 3) 3 1 v n xs) (hg : (wr.alloc o).drew.grownBy w1 v.ownBlock) :
    w1.cell? ⟨w.heap.size + 2, 28, none⟩ = some v ∧ w1.frozen? ⟨w.heap.size + 2, 28, none⟩ = false ∧ ∀ v', FileW w M b7 b16 b17 v' long (w1.setCell ⟨w.heap.size + 2, 28, none⟩ v') := by
  have h1 := h.grow hown hg
  exact ⟨h1.cell 28 _ rfl, h1.free 28, fun v' => h1.set v'⟩
/-- The advances so far. -/
structure Advs (w : World) (M : Nat → Int) (b7 b16 b17 : Bool) (l : List Int) (v : Value) (W : World) : Prop where
  file : FileW w M b7 b16 b17 v (vi 0) W
  own : W.ownsRow (w.heap.size + 3) 3 1 v l.length (l.map fun x => Value.int .i64 x)
  lim : ∀ x ∈ l, 0 ≤ x ∧ x ≤ 16000
theorem Advs.next {w wr w2 : World} {M : Nat → Int} {b7 b16 b17 : Bool} {l : List Int} {v : Value} {i y gg gcap : Nat} {o : Obj} (h : Advs w M b7 b16 b17 l v wr) (hl : l.length = i) (hs : w.heap.size + 3 ≤ wr.heap.size) (hy : y ≤ 16000)
    (hown1 : w2.ownsRow (w.heap.size + 3) 3 1 (.slice (some ⟨gg, 0, none⟩) (i + 1) gcap) (i + 1) (l.map (fun x => Value.int .i64 x) ++ [.int .i64 (y : Int)])) (hgrow : (wr.alloc o).drew.grownBy w2 v.ownBlock) :
    Advs w M b7 b16 b17 (l ++ [(y : Int)]) (.slice (some ⟨gg, 0, none⟩) (i + 1) gcap) (w2.setCell ⟨w.heap.size + 2, 28, none⟩ (.slice (some ⟨gg, 0, none⟩) (i + 1) gcap)) ∧ w.heap.size + 3 ≤ (w2.setCell ⟨w.heap.size + 2, 28, none⟩ (.slice (some ⟨gg, 0, none⟩) (i + 1) gcap)).heap.size := by
  have hsz2 := hgrow.size
  have hgg := (hown1.lt gg rfl).1
  have hoo := h.own
  have hsz : (wr.alloc o).drew.heap.size = wr.heap.size + 1 := World.size_alloc wr o
  refine ⟨⟨(h.file.mid hoo hgrow).2.2 _, ?_, fun z hz => ?_⟩, by rw [World.size_setCell]; omega⟩
  · rw [List.length_append, List.length_singleton, hl, List.map_append]
    refine own_block hown1 (fun q hq => Below.heap_setCell _ _ _ _ ?_)
    have e : gg = q := by simpa [Value.ownBlock] using hq
    show q ≠ w.heap.size + 2
    omega
  · rcases List.mem_append.1 hz with h' | h'
    · exact h.lim z h'
    · rw [List.mem_singleton.1 h']; omega
theorem FileW.set30 {w W : World} {M : Nat → Int} {b7 b16 b17 : Bool} {adv long : Value} (h : FileW w M b7 b16 b17 adv long W) : FileW w M b7 b16 b17 adv long (W.setCell ⟨w.heap.size + 2, 30, none⟩ (.slice none 0 0)) :=
  ⟨h.lim, heap_set h.file, by rw [Below.heap_setCell _ _ _ _ (by show w.heap.size + 1 ≠ w.heap.size + 2; omega)]; exact h.back, h.below.setCell (by show w.heap.size ≤ w.heap.size + 2; omega) _⟩
theorem FileW.alloc {w W : World} {M : Nat → Int} {b7 b16 b17 : Bool} {adv long : Value} (h : FileW w M b7 b16 b17 adv long W) (o : Obj) : FileW w M b7 b16 b17 adv long (W.alloc o) :=
  have hF : w.heap.size + 2 < W.heap.size := (Array.getElem?_eq_some_iff.1 h.file).1
  ⟨h.lim, (Below.heap_alloc _ _ _ hF).trans h.file, (Below.heap_alloc _ _ _ (by omega)).trans h.back, h.below.alloc h.below.size _⟩
/-- A file whose advances stand. -/
structure FileG (w : World) (M : Nat → Int) (b7 b16 b17 : Bool) (G k cap : Nat) (long : Value) (W : World) : Prop where
  file : FileW w M b7 b16 b17 (.slice (some ⟨G, 0, none⟩) k cap) long W
  pos : 0 < k ∧ k ≤ 40 ∧ k ≤ cap ∧ cap ≤ 9223372036854775807
  low : w.heap.size + 3 ≤ G
  adv : AdvAt G k W
theorem FileG.of {w W : World} {M : Nat → Int} {b7 b16 b17 : Bool} {l : List Int} {v : Value} (h : Advs w M b7 b16 b17 l v W) (h0 : 0 < l.length) (h40 : l.length ≤ 40) : ∃ G cap, v = .slice (some ⟨G, 0, none⟩) l.length cap ∧ FileG w M b7 b16 b17 G l.length cap (vi 0) W := by
  obtain ⟨G, cap, cur, rfl, hG, hg, h1, h2, _⟩ := own_form h.own h0
  refine ⟨G, cap, rfl, h.file, ⟨h0, h40, h1, by unfold maxLen at h2; omega⟩, hG, (h.own.lt G rfl).2, fun j hj => ?_⟩
  have hx : l[j]? = some l[j] := List.getElem?_eq_getElem hj
  refine ⟨l[j], h.lim _ (List.getElem_mem hj), ?_⟩
  rw [h.own.cellAt j (by omega)]
  simp [hx]
theorem FileG.one {w W : World} {M : Nat → Int} {b7 b16 b17 : Bool} {v : Value} (h : FileW w M b7 b16 b17 v (vi 0) W) (hs : w.heap.size + 3 ≤ W.heap.size) :
    FileG w M b7 b16 b17 W.heap.size 1 1 (vi 0) (((W.setCell ⟨w.heap.size + 2, 28, none⟩ (.slice (some ⟨W.heap.size, 0, none⟩) 1 1)).setCell ⟨w.heap.size + 2, 30, none⟩ (.slice none 0 0)).alloc (.cells #[.int .i64 500] 3)) := by
  have hnew := heap_alloc_new ((W.setCell ⟨w.heap.size + 2, 28, none⟩ (.slice (some ⟨W.heap.size, 0, none⟩) 1 1)).setCell ⟨w.heap.size + 2, 30, none⟩ (.slice none 0 0)) (.cells #[.int .i64 500] 3)
  rw [World.size_setCell, World.size_setCell] at hnew
  refine ⟨(h.set _).set30.alloc _, ⟨by omega, by omega, by omega, by omega⟩, hs, ⟨by rw [World.size_alloc, World.size_setCell, World.size_setCell]; omega, fun j hj => ?_⟩⟩
  have e : j = 0 := by omega
  subst e
  exact ⟨500, by omega, by rw [cell_in hnew]; rfl⟩
theorem FileG.long {w W : World} {M : Nat → Int} {b7 b16 b17 : Bool} {G k cap : Nat} {long : Value} (h : FileG w M b7 b16 b17 G k cap long W) (v : Value) : FileG w M b7 b16 b17 G k cap v (W.setCell ⟨w.heap.size + 2, 29, none⟩ v) := by
  have hl := h.low
  refine ⟨h.file.set2 v, h.pos, h.low, ⟨by rw [World.size_setCell]; exact h.adv.1, fun j hj => ?_⟩⟩
  obtain ⟨x, h1, h2⟩ := h.adv.2 j hj
  exact ⟨x, h1, by rw [World.cell?_setCell_other _ _ _ _ (by simp)]; exact h2⟩
theorem FileG.back {w W : World} {M : Nat → Int} {b7 b16 b17 : Bool} {G k cap : Nat} {cs : Array Value} (h : FileG w M b7 b16 b17 G k cap (vi 1) W) (hc : cs = fileCells M b7 b16 b17 (.slice (some ⟨G, 0, none⟩) k cap) (.int .i64 1)) :
    (W.setRow (w.heap.size + 1) cs).heap[w.heap.size + 1]? = some (.cells cs 35 (0, 0)) ∧ Filed w (.returned (.agg cs)) (W.setRow (w.heap.size + 1) cs) := by
  have hback := h.file.back
  have hlow := h.low
  have hother : ∀ q, q ≠ w.heap.size + 1 → (W.setRow (w.heap.size + 1) cs).heap[q]? = W.heap[q]? := fun q hq => by
    simp only [World.setRow, Array.getElem?_modify]
    rw [if_neg (by omega)]
  have hsz : (W.setRow (w.heap.size + 1) cs).heap.size = W.heap.size := by simp [World.setRow]
  refine ⟨?_, M, b7, b16, b17, G, k, cap, by rw [hc], h.file.lim, h.pos.1, h.pos.2.1, h.pos.2.2.1, h.pos.2.2.2, ⟨by rw [hsz]; exact h.adv.1, fun j hj => ?_⟩, ?_⟩
  · simp only [World.setRow, Array.getElem?_modify, if_true]
    rw [hback]
    rfl
  · obtain ⟨x, h1, h2⟩ := h.adv.2 j hj
    exact ⟨x, h1, (World.cell?_of_block (hother G (by omega))).trans h2⟩
  · exact ⟨h.file.below.os, h.file.below.tape, h.file.below.output, by rw [hsz]; exact h.file.below.size, fun q hq => (hother q (by omega)).trans (h.file.below.block q hq)⟩
theorem i3' : (Tryz.prog.info? 3).map (fun i => (i.zero, i.size, i.bytes)) = some (some (.int .i64 0), 1, 8) := by kernel_rfl

set_option maxRecDepth 1000000 in
set_option maxHeartbeats 80000000 in
theorem file_any (n0 n1 c0 c1 : Nat) (A0 A1 : Option Addr) (w : World) (h0 : n0 ≤ 9223372036854775807) (h1 : n1 ≤ 9223372036854775807) (hm : InI16 w A0 n0) (ha : InU16 A1 n1 w) :
    Calls Tryz.prog 4 #[.slice A0 n0 c0, .slice A1 n1 c1, .slice none 0 0, .int .u8 0, .slice none 0 0, .slice none 0 0] w (Filed w) := by
  have hb0 : Below w.heap.size w (w.alloc (.cells #[.slice A0 n0 c0] 22)) := (Below.refl _ _).alloc (Nat.le_refl _) _
  have hcB : (w.alloc (.cells #[.slice A0 n0 c0] 22)).cell? ⟨w.heap.size, 0, none⟩ = some (.slice A0 n0 c0) := by rw [cell_in (heap_alloc_new w _)]; rfl
  have HAT0 := Lib.hid (fun (W : World) (hb : Below (w.alloc (.cells #[.slice A0 n0 c0] 22)).heap.size (w.alloc (.cells #[.slice A0 n0 c0] 22)) W) (i : Int) (hi0 : 0 ≤ i) (hi : i < 100) => show Calls Tryz.prog 10 #[.int .i64 i, .pointer (some ⟨w.heap.size, 0, none⟩)] W _ from (by
    obtain ⟨j, rfl⟩ : ∃ j : Nat, i = j := ⟨i.toNat, by omega⟩
    exact at_any w.heap.size n0 c0 j A0 W h0 (by omega) (below_cell hb hcB) (old_i16 (old_i16 hm hb0) hb)))
  have HA := Lib.hid ha
  clear hm ha hcB hb0
  go_enter Tryz.func4, Tryz.ntmps4
  go_upto_region 3 with fail
  obtain ⟨W0, hW0⟩ : ∃ W0, W0 = (w.alloc (.cells #[.slice A0 n0 c0] 22)).alloc (.cells zeroFile 35) := ⟨_, rfl⟩
  have hsz0 : W0.heap.size = w.heap.size + 2 := by rw [hW0]; simp
  have hR : W0.heap[w.heap.size + 1]? = some (.cells zeroFile 35 (0, 0)) := by
    rw [hW0]
    have h := heap_alloc_new (w.alloc (.cells #[.slice A0 n0 c0] 22)) (.cells zeroFile 35)
    rw [World.size_alloc] at h
    exact h
  have hb00 : Below (w.alloc (.cells #[.slice A0 n0 c0] 22)).heap.size (w.alloc (.cells #[.slice A0 n0 c0] 22)) W0 := by rw [hW0]; exact (Below.refl _ _).alloc (Nat.le_refl _) _
  have hb0 : Below w.heap.size w W0 := ((Below.refl _ _).alloc (Nat.le_refl _) _).trans (hb00.mono (by simp))
  have HAT := Lib.hid (HAT0.out W0 hb00)
  have HR := Lib.hid (And.intro hsz0 (And.intro hR hb0))
  refine reg_eq (by kernel_rfl : _ = ops4) ?_
  rw [show (w.alloc (.cells #[.slice A0 n0 c0] 22)).alloc (.cells #[.int .i64 0, .int .i64 0, .int .i64 0, .int .i64 0, .int .i64 0, .int .i64 0, .int .i64 0, .bool false, .int .i64 0, .int .i64 0, .int .i64 0, .int .i64 0, .int .i64 0, .int .i64 0, .int .i64 0, .int .i64 0, .bool false, .bool false, .int .i64 0, .int .i64 0, .int .i64 0, .int .i64 0, .int .i64 0, .int .i64 0, .int .i64 0, .int .i64 0, .slice none 0 0, .slice none 0 0, .slice none 0 0, .int .i64 0, .slice none 0 0, .slice none 0 0, .bool false, .slice none 0 0, .slice none 0 0, .map none] 35) = W0 from hW0.symm]
  clear hW0 hsz0 hR hb00 hb0 HAT0
  refine file_region (A1 := A1) (n1 := n1) (c1 := c1) (B := w.heap.size) ⟨by kernel_rfl, rfl, ?_, rfl, fun j hj => absurd hj (Nat.not_lt_zero j)⟩ HAT.out ?_
  · intro t ht
    have ht' : t ∈ [1, 2, 3, 4, 5, 6, 12, 13, 14] := ht
    simp only [List.mem_cons, List.not_mem_nil, or_false] at ht'
    rcases ht' with rfl | rfl | rfl | rfl | rfl | rfl | rfl | rfl | rfl <;> rfl
  intro f M b7 b16 b17 hl
  have hFW : FileW w M b7 b16 b17 vnil (vi 0) ((W0.alloc (.cells zeroFile 35)).setRow W0.heap.size (fileCells M b7 b16 b17 vnil (vi 0))) := by
    obtain ⟨hsz0, hR, hb0⟩ := HR.out
    have hnew := heap_alloc_new W0 (.cells zeroFile 35)
    have hold : ∀ q, q < W0.heap.size → ((W0.alloc (.cells zeroFile 35)).setRow W0.heap.size (fileCells M b7 b16 b17 vnil (vi 0))).heap[q]? = W0.heap[q]? := fun q hq => by
      rw [← Below.heap_alloc W0 (.cells zeroFile 35) q hq]
      simp only [World.setRow, Array.getElem?_modify]
      rw [if_neg (by omega)]
    refine ⟨hl, ?_, ?_, hb0.os, hb0.tape, hb0.output, ?_, fun q hq => (hold q (by omega)).trans (hb0.block q hq)⟩
    · rw [← hsz0]
      simp only [World.setRow, Array.getElem?_modify, if_true]
      rw [hnew]
      rfl
    · rw [hold _ (by omega)]; exact hR
    · have : ((W0.alloc (.cells zeroFile 35)).setRow W0.heap.size (fileCells M b7 b16 b17 vnil (vi 0))).heap.size = W0.heap.size + 1 := by simp [World.setRow]
      omega
  have hs3 : W0.heap.size + 1 ≤ ((W0.alloc (.cells zeroFile 35)).setRow W0.heap.size (fileCells M b7 b16 b17 vnil (vi 0))).heap.size := by simp [World.setRow]
  obtain ⟨w1, hw1⟩ : ∃ w1, w1 = (W0.alloc (.cells zeroFile 35)).setRow W0.heap.size (fileCells M b7 b16 b17 vnil (vi 0)) := ⟨_, rfl⟩
  rw [← hw1] at hFW hs3 ⊢
  rw [fr4, HR.out.1]
  have HF := Lib.hid hFW
  have hs3' : w.heap.size + 3 ≤ w1.heap.size := by have := HR.out.1; omega
  have HS3 := Lib.hid hs3'
  clear hFW hs3 hs3' hw1 hl HAT
  go_wp2_with fail
  go_wp2_with fail
  go_loopg [16] (40) (fun gk iv W => ∃ (i : Nat) (l : List Int) (v : Value), i ≤ 40 ∧ i ≤ n1 ∧ gk = 40 - i ∧ iv = .int .i64 i ∧ l.length = i ∧ Advs w M b7 b16 b17 l v W ∧ w.heap.size + 3 ≤ W.heap.size)
  case atStart => exact ⟨0, [], vnil, by omega, by omega, rfl, rfl, rfl, ⟨HF.out, World.ownsRow_nil _ _ _ _, by simp⟩, HS3.out⟩
  case round =>
    obtain ⟨i, l, v, hi, hin, hgk, rfl, hll, hadv, hsz⟩ := hrel
    have HK := Lib.hid hgk
    have HAV := Lib.hid hadv
    have HLL := Lib.hid hll
    have c28 : wr.cell? ⟨w.heap.size + 2, 28, none⟩ = some v := hadv.file.cell 28 v rfl
    have f28 := hadv.file.free 28
    clear hgk hadv hll
    by_cases hgo : i < n1 ∧ i < 40
    · obtain ⟨hlt, hlt2⟩ := hgo
      · have d1 : decide ((i : Int) < (n1 : Int)) = true := decide_eq_true (by omega)
        have d2 : decide ((i : Int) < 40) = true := decide_eq_true (by omega)
        obtain ⟨b, off, rfl, hb⟩ := HA.out.get (by omega)
        obtain ⟨x, hx, cx0⟩ := hb i hlt
        have cx := below_cell HAV.out.file.below cx0
        obtain ⟨y, hy⟩ : ∃ y, y = x % 16000 := ⟨_, rfl⟩
        have hyl : y ≤ 16000 := by omega
        have m1 : (x : Int).tmod 16000 = y := by rw [Int.tmod_eq_emod_of_nonneg (by omega)]; omega
        have wy : IntKind.i64.wrap (y : Int) = y := IntWalk.i64_in _ (by omega)
        have hown := HAV.out.own
        rw [HLL.out] at hown
        obtain ⟨t3, j3, j3z, j3a, j3b⟩ := info_parts i3'
        have hF2 : w.heap.size + 2 < wr.heap.size := by omega
        clear hb cx0 hy
        go_upto_region 7 with fail
        go_region_law
          ((refine step_append_lies _ (by rfl) _ _ _ (by rfl) (w.heap.size + 3) 3 t3 _ 1 8 Tryz.underlying29 j3 j3z j3a j3b rfl (by omega) v i (l.map fun x => Value.int .i64 x) (by rfl) ((hown.alloc _).drew) ⟨wr.heap.size, 0, none⟩ 1 1 [.int .i64 (y : Int)] (by rfl) (by rfl) (World.news_of_block (cs := #[.int .i64 (y : Int)]) (t := 3) (fr := (0, 0)) (heap_alloc_new wr _ : _)) (by simp [Value.oneCell']) (by omega) (by unfold maxLen; omega) (by omega) (by simp; omega) (wr.heap.size + 1) (by simp) ?_; intro gg gcap w2 hown1 hgrow hat hlt3; have hq := HAV.out.file.mid (HAV.out.own) hgrow; have q0 := hq.1; have q1 := hq.2.1; have q3 := Lib.hid (HAV.out.next HLL.out hsz hyl hown1 hgrow); clear hq hgrow hown1 hat))
        all_goals
          clear q0 q1 hown c28 f28 cx
          go_wp2_with fail
          go_roundg (40 - (i + 1))
          case measure => rw [HK.out]; omega
          case rel => exact ⟨i + 1, l ++ [(y : Int)], _, by omega, by omega, rfl, by simp, by rw [List.length_append, HLL.out]; rfl, q3.out.1, q3.out.2⟩
    · go_upto_region 5 with fail
      go_cut [100] (fun v W => v = .bool false ∧ W = wr)
      case first =>
        by_cases hlt : i < n1
        · have d1 : decide ((i : Int) < (n1 : Int)) = true := decide_eq_true (by omega)
          have d2 : decide ((i : Int) < 40) = false := decide_eq_false (by omega)
          go_wp2_with fail
          go_meet
          case rel => exact ⟨rfl, rfl⟩
        · have d1 : decide ((i : Int) < (n1 : Int)) = false := decide_eq_false (by omega)
          go_wp2_with fail
          go_meet
          case rel => exact ⟨rfl, rfl⟩
      case rest =>
        obtain ⟨rfl, rfl⟩ := hcut
        clear HK hgo
        obtain ⟨A, vcap, rfl⟩ := own_slice HAV.out.own
        have hlen : l.length ≤ 40 := by rw [HLL.out]; exact hi
        have HLN := Lib.hid hlen
        have f30 := HAV.out.file.free 30
        have c30 : wc.cell? ⟨w.heap.size + 2, 30, none⟩ = some (.slice none 0 0) := HAV.out.file.cell 30 _ rfl
        obtain ⟨n, hn⟩ : ∃ n, n = l.length := ⟨_, rfl⟩
        rw [← hn] at c28
        have HNL := Lib.hid hn
        clear hn hlen hi hin
        go_upto_if 134 with fail
        go_cut [15] (fun v W => v = pt (w.heap.size + 2) 0 ∧ ∃ G k cap, FileG w M b7 b16 b17 G k cap (vi 0) W)
        case first =>
          by_cases hn0 : n = 0
          · have e0 : ((n : Int) == 0) = true := by rw [hn0]; rfl
            have HONE := Lib.hid (FileG.one HAV.out.file hsz)
            have hf2 : w.heap.size + 2 < wc.heap.size := by omega
            go_wp2_with fail
            go_meet
            case rel => exact ⟨rfl, _, _, _, HONE.out⟩
          · have e0 : ((n : Int) == 0) = false := by rw [beq_eq_false_iff_ne]; omega
            obtain ⟨G, cap, _, hG⟩ := FileG.of HAV.out (by have := HNL.out; omega) HLN.out
            have HG := Lib.hid hG
            clear hG
            go_wp2_with fail
            go_meet
            case rel => exact ⟨rfl, _, _, _, HG.out⟩
        case rest =>
          obtain ⟨rfl, G, k, cap, hG⟩ := hcut
          have HG := Lib.hid hG
          have g28 : wc.cell? ⟨w.heap.size + 2, 28, none⟩ = some (.slice (some ⟨G, 0, none⟩) k cap) := hG.file.cell 28 _ rfl
          have g29 := hG.file.free 29
          have b29 : wc.cell? ⟨w.heap.size + 2, 29, none⟩ = some (vi 0) := hG.file.cell 29 _ rfl
          have k0 : ¬ (k : Int) = 0 := by have := hG.pos; omega
          have t0 : Int.tmod 0 (k : Int) = 0 := Int.zero_tmod _
          clear hG HAV HLL HLN HNL
          go_upto_region 13 with fail
          have HG2 := Lib.hid (HG.out.long (vi 1))
          obtain ⟨w5, hw5⟩ : ∃ w5, w5 = wc.setCell ⟨w.heap.size + 2, 29, none⟩ (vi 1) := ⟨_, rfl⟩
          rw [← hw5] at HG2
          rw [show wc.setCell ⟨w.heap.size + 2, 29, none⟩ (.int .i64 1) = w5 from hw5.symm]
          clear hw5 HG
          go_wp2_with fail
          refine wp_loop_rounds 1 ?_
          rw [rounds_succ]
          go_wp2_with fail
          refine wp_loop_rounds 1 ?_
          rw [rounds_succ]
          go_upto_region 23 with fail
          obtain ⟨cs, hcs⟩ : ∃ cs : Array Value, cs = fileCells M b7 b16 b17 (.slice (some ⟨G, 0, none⟩) k cap) (vi 1) := ⟨_, rfl⟩
          have hcz : cs.size = 36 := by rw [hcs]; rfl
          have hone : cs.all (·.oneCell') = true := by rw [hcs]; simp [fileCells, Value.oneCell']
          have hfile := HG2.out.file.file
          rw [← hcs] at hfile
          have hback := HG2.out.file.back
          have HB := Lib.hid (HG2.out.back hcs)
          have hsize : (Tryz.prog.info? 35).map (·.size) = some 36 := by kernel_rfl
          have HC := Lib.hid (And.intro hcz (And.intro hone (And.intro hfile (And.intro hback hsize))))
          clear hcs hcz hone hfile hback hsize HG2 k0 t0 g28 g29 b29 f30 c30 f28 c28
          go_wp2_with (first
            | (refine wpList_load_row (by rfl) 35 (.tmp 15) (by rfl) (w.heap.size + 2) (by rfl) 35 cs (0, 0) _ HC.out.2.2.1 Tryz.underlying35 (by rfl) (by rw [HC.out.1]; exact HC.out.2.2.2.2) ?_)
            | (refine wpList_store_row (by rfl) 35 (.tmp 12) (.tmp 206) (by rfl) (w.heap.size + 1) cs (by rfl) (by rfl) 35 zeroFile HC.out.2.2.2.1 (by rw [HC.out.1]; exact HC.out.2.2.2.2) (by rw [HC.out.1]; rfl) HC.out.2.1 ?_))
          exact bodyPost_ret (results_cell_row rfl _ _ (w.heap.size + 1) 35 cs (0, 0) _ (by rfl) HB.out.1 Tryz.underlying35 (by rfl) (by rw [HC.out.1]; exact HC.out.2.2.2.2)) rfl HB.out.2
end Go.Proofs.YtgggpllmgnpngaaGreatDoor.Tb
