/- A file's head, read: walked. -/
import Derived.Test.YtgggpllmgnpngaaGreatDoorTbRead
namespace Go.Proofs.YtgggpllmgnpngaaGreatDoor.Tb
open Go Go.RowKit

/-- The reader, as a resource. -/
def rdV (R : Nat) : Value := .iface 84 (.pointer (some ⟨R, 0, none⟩))

theorem nil_read (R : Nat) (W : World) : (nilAhead 360 84 (.pointer (some ⟨R, 0, none⟩)) "Read").run Tryz.prog W = .ok (some false) W := by kernel_rfl

theorem method_read (R : Nat) (W : World) : (method 360 84 (.pointer (some ⟨R, 0, none⟩)) "Read").run Tryz.prog W = .ok (160, .pointer (some ⟨R, 0, none⟩)) W := by kernel_rfl
theorem method_readat (R : Nat) (W : World) : (method 360 84 (.pointer (some ⟨R, 0, none⟩)) "ReadAt").run Tryz.prog W = .ok (161, .pointer (some ⟨R, 0, none⟩)) W := by kernel_rfl
theorem method_seek (R : Nat) (W : World) : (method 360 84 (.pointer (some ⟨R, 0, none⟩)) "Seek").run Tryz.prog W = .ok (162, .pointer (some ⟨R, 0, none⟩)) W := by kernel_rfl
theorem nil_seek (R : Nat) (W : World) : (nilAhead 360 84 (.pointer (some ⟨R, 0, none⟩)) "Seek").run Tryz.prog W = .ok (some false) W := by kernel_rfl
theorem nil_readat (R : Nat) (W : World) : (nilAhead 360 84 (.pointer (some ⟨R, 0, none⟩)) "ReadAt").run Tryz.prog W = .ok (some false) W := by kernel_rfl

/-- What reading gives. -/
def Got (R B N cap i X k : Nat) (t : TypeId) (bs : List Nat) (w : World) (e : Ending) (w' : World) : Prop :=
  e = .returned (.tuple #[.int .i64 k, .nilIface]) ∧ Rd R B N cap (i + k) bs w' ∧ w'.heap[X]? = some (.cells (taken bs i k).toArray t (0, 0)) ∧ Kept (fun q => q = R ∨ q = X) w w'

theorem Got.drew {R B N cap i X k : Nat} {t : TypeId} {bs : List Nat} {w w' : World} {e : Ending} (h : Got R B N cap i X k t bs w.drew e w') : Got R B N cap i X k t bs w e w' := by
  obtain ⟨h1, h2, h3, h4⟩ := h
  exact ⟨h1, h2, h3, ((kept_of_below (Below.refl _ w).drew).sub (fun _ _ h => h.elim)).trans h4 (fun q _ h => h)⟩

set_option maxRecDepth 100000 in
set_option maxHeartbeats 4000000 in
theorem least_any (R B N cap i X k : Nat) (t : TypeId) (bs : List Nat) (cur : List Value) (w : World) (h : Rd R B N cap i bs w) (hk : 0 < k) (hik : i + k ≤ N) (hX : w.heap[X]? = some (.cells cur.toArray t (0, 0))) (hcur : cur.length = k) (hXR : X ≠ R) (hXB : X ≠ B) :
    Calls Tryz.prog 142 #[.iface 84 (.pointer (some ⟨R, 0, none⟩)), .slice (some ⟨X, 0, none⟩) k k, .int .i64 k] w (Got R B N cap i X k t bs w) := by
  have hr := h.room
  have HG := Lib.hid (fun W (hW : W = w.drew) => show Calls Tryz.prog 160 #[.pointer (some ⟨R, 0, none⟩), .slice (some ⟨X, 0, none⟩) k k] W (Got R B N cap i X k t bs w) from by
    subst hW
    exact (read_any R B N cap i X k t bs cur w.drew (h.later (Below.refl _ w).drew) hk hik hX hcur hXR hXB).mono fun _ _ hg => Got.drew hg)
  have k1 : ¬ (k : Int) < k := by omega
  have k2 : decide ((0 : Int) < k) = true := decide_eq_true (by omega)
  have k3 : (0 : Int) < k := by omega
  have k4 : ¬ k = 0 := by omega
  have hna : ∀ W, (nilAhead 360 84 (.pointer (some ⟨R, 0, none⟩)) "Read").run Tryz.prog W = .ok (some false) W := fun W => nil_read R W
  have hme : ∀ W, (method 360 84 (.pointer (some ⟨R, 0, none⟩)) "Read").run Tryz.prog W = .ok (160, .pointer (some ⟨R, 0, none⟩)) W := fun W => method_read R W
  clear h hX hcur hXR hXB
  go_enter Tryz.func142, Tryz.ntmps142
  go_wp2_with fail
  refine wp_loop_rounds 2 ?_
  rw [rounds_succ]
  go_wp2_with fail
  go_region_with (go_at_call 160; (with_reducible refine (HG.out _ rfl).mono ?_); rintro e w1 ⟨rfl, h1, h2, h3⟩; have HH := Lib.hid (And.intro h1 (And.intro h2 h3)); clear h1 h2 h3)
  all_goals
    go_wp2_with fail
    rw [rounds_succ]
    go_wp2_with fail
    go_ret2
    exact ⟨rfl, HH.out⟩

set_option maxRecDepth 100000 in
set_option maxHeartbeats 4000000 in
theorem full_any (R B N cap i X k : Nat) (t : TypeId) (bs : List Nat) (cur : List Value) (w : World) (h : Rd R B N cap i bs w) (hk : 0 < k) (hik : i + k ≤ N) (hX : w.heap[X]? = some (.cells cur.toArray t (0, 0))) (hcur : cur.length = k) (hXR : X ≠ R) (hXB : X ≠ B) :
    Calls Tryz.prog 132 #[.iface 84 (.pointer (some ⟨R, 0, none⟩)), .slice (some ⟨X, 0, none⟩) k k] w (Got R B N cap i X k t bs w) := by
  have H := Lib.hid (least_any R B N cap i X k t bs cur w h hk hik hX hcur hXR hXB)
  clear h hX hcur hXR hXB hik
  go_enter Tryz.func132, Tryz.ntmps132
  go_wp2_with fail
  with_reducible refine H.out.mono ?_
  rintro e w1 ⟨rfl, h1, h2, h3⟩
  have HH := Lib.hid (And.intro h1 (And.intro h2 h3))
  clear h1 h2 h3 H
  go_wp2_with fail
  go_ret2
  exact ⟨rfl, HH.out⟩
end Go.Proofs.YtgggpllmgnpngaaGreatDoor.Tb

namespace Go.Proofs.YtgggpllmgnpngaaGreatDoor.Tb
open Go Go.RowKit

theorem taken_cell {bs : List Nat} {i k j b : Nat} (hj : j < k) (h : bs[i + j]? = some b) : (taken bs i k)[j]? = some (.int .u8 (b : Nat)) := by
  unfold taken byteCells
  rw [List.getElem?_map, List.getElem?_take_of_lt hj, List.getElem?_drop, h]
  rfl

/-- The head's bytes. -/
def HeadB (bs : List Nat) : Prop := bs[0]? = some 0 ∧ bs[1]? = some 1 ∧ bs[2]? = some 0 ∧ bs[3]? = some 0 ∧ bs[4]? = some 0 ∧ bs[5]? = some 8

def Held6 (X : Nat) (W : World) : Prop := W.cell? ⟨X, 0, none⟩ = some (.int .u8 0) ∧ W.cell? ⟨X, 1, none⟩ = some (.int .u8 1) ∧ W.cell? ⟨X, 2, none⟩ = some (.int .u8 0) ∧ W.cell? ⟨X, 3, none⟩ = some (.int .u8 0) ∧ W.cell? ⟨X, 4, none⟩ = some (.int .u8 0) ∧ W.cell? ⟨X, 5, none⟩ = some (.int .u8 8)
theorem Held6.later {X : Nat} {W W' : World} (h : Held6 X W) (k : Below W.heap.size W W') : Held6 X W' := by
  obtain ⟨a, b, c, d, e, f⟩ := h
  exact ⟨below_cell k a, below_cell k b, below_cell k c, below_cell k d, below_cell k e, below_cell k f⟩

def Headed (R B N cap : Nat) (bs : List Nat) (w : World) (e : Ending) (w' : World) : Prop :=
  e = .returned (.tuple #[.int .u32 65536, .int .u16 8, .nilIface]) ∧ Rd R B N cap 12 bs w' ∧ Kept (fun q => q = R) w w'

set_option maxRecDepth 100000 in
set_option maxHeartbeats 4000000 in
theorem header_any (R B N cap : Nat) (bs : List Nat) (w : World) (h : Rd R B N cap 0 bs w) (hb : HeadB bs) (hN : 12 ≤ N) :
    Calls Tryz.prog 106 #[.iface 84 (.pointer (some ⟨R, 0, none⟩))] w (Headed R B N cap bs w) := by
  have hR := h.low
  have hk1 : Below w.heap.size w (w.alloc (.cells #[Value.int .u8 0, Value.int .u8 0, Value.int .u8 0, Value.int .u8 0, Value.int .u8 0, Value.int .u8 0, Value.int .u8 0, Value.int .u8 0, Value.int .u8 0, Value.int .u8 0, Value.int .u8 0, Value.int .u8 0] 228)) := (Below.refl _ _).alloc (Nat.le_refl _) _
  have HG := Lib.hid (fun W (hW : W = (w.alloc (.cells #[Value.int .u8 0, Value.int .u8 0, Value.int .u8 0, Value.int .u8 0, Value.int .u8 0, Value.int .u8 0, Value.int .u8 0, Value.int .u8 0, Value.int .u8 0, Value.int .u8 0, Value.int .u8 0, Value.int .u8 0] 228)).drew) => show Calls Tryz.prog 160 #[.pointer (some ⟨R, 0, none⟩), .slice (some ⟨w.heap.size, 0, none⟩) 12 12] W (Got R B N cap 0 w.heap.size 12 228 bs (w.alloc (.cells #[Value.int .u8 0, Value.int .u8 0, Value.int .u8 0, Value.int .u8 0, Value.int .u8 0, Value.int .u8 0, Value.int .u8 0, Value.int .u8 0, Value.int .u8 0, Value.int .u8 0, Value.int .u8 0, Value.int .u8 0] 228))) from by
    subst hW
    exact (read_any R B N cap 0 w.heap.size 12 228 bs [Value.int .u8 0, Value.int .u8 0, Value.int .u8 0, Value.int .u8 0, Value.int .u8 0, Value.int .u8 0, Value.int .u8 0, Value.int .u8 0, Value.int .u8 0, Value.int .u8 0, Value.int .u8 0, Value.int .u8 0] _ ((h.later hk1).later (Below.refl _ _).drew) (by omega) (by omega) (heap_alloc_new w _) (by simp) (by omega) (by omega)).mono fun _ _ hg => Got.drew hg)
  have HN := Lib.hid (fun W => show Calls Tryz.prog 50 #[.int .u8 0, .int .u8 1, .int .u8 0, .int .u8 0] W (fun e w' => e = .returned (.int .u32 65536) ∧ W = w') from newtag_any 0 1 0 0 W (by omega) (by omega) (by omega) (by omega))
  have HU := Lib.hid (fun W (hh : Held6 w.heap.size W) => show Calls Tryz.prog 133 #[.agg #[], .slice (some ⟨w.heap.size, 4, none⟩) 2 8] W (fun e w' => e = .returned (.int .u16 8) ∧ Held6 w.heap.size w' ∧ Below W.heap.size W w') from
    (u16_any w.heap.size 4 8 0 8 W (by omega) (by omega) hh.2.2.2.2.1 hh.2.2.2.2.2).mono fun _ _ ⟨h1, h2⟩ => ⟨h1, hh.later h2, h2⟩)
  have HB := Lib.hid hb
  have HK1 := Lib.hid hk1
  have hna : ∀ W, (nilAhead 360 84 (.pointer (some ⟨R, 0, none⟩)) "Read").run Tryz.prog W = .ok (some false) W := fun W => nil_read R W
  have hme : ∀ W, (method 360 84 (.pointer (some ⟨R, 0, none⟩)) "Read").run Tryz.prog W = .ok (160, .pointer (some ⟨R, 0, none⟩)) W := fun W => method_read R W
  clear h hk1
  go_enter Tryz.func106, Tryz.ntmps106
  go_upto_region 2 with fail
  go_region_with (go_at_call 160; (with_reducible refine (HG.out _ rfl).mono ?_); rintro e w1 ⟨rfl, h1, h2, h3⟩; have HH := Lib.hid (And.intro h1 (And.intro h2 h3)); clear h1 h2 h3)
  all_goals
    obtain ⟨b0, b1, b2, b3, b4, b5⟩ := HB.out
    have hc : ∀ j b, j < 12 → bs[0 + j]? = some b → w1.cell? ⟨w.heap.size, j, none⟩ = some (.int .u8 (b : Nat)) := fun j b hj hbj => by
      rw [cell_in HH.out.2.1]
      simpa using taken_cell hj hbj
    have h6 : Held6 w.heap.size w1 := ⟨hc 0 0 (by omega) b0, hc 1 1 (by omega) b1, hc 2 0 (by omega) b2, hc 3 0 (by omega) b3, hc 4 0 (by omega) b4, hc 5 8 (by omega) b5⟩
    have hkept : Kept (fun q => q = R) w w1 := (((kept_of_below HK1.out).sub (fun _ _ h => h.elim)).trans HH.out.2.2 (fun q hq h => by
      rcases h with h | h
      · exact h
      · omega))
    have hXl : w.heap.size < w1.heap.size := by have := HH.out.2.2.size; rw [World.size_alloc] at this; omega
    have H6 := Lib.hid h6
    obtain ⟨d0, d1, d2, d3, d4, d5⟩ := h6
    have HKEPT := Lib.hid hkept
    have HRD := Lib.hid HH.out.1
    clear hc hkept b0 b1 b2 b3 b4 b5
    go_upto_region 5 with fail
    have HH6 : Hid (Held6 w.heap.size w1.drew) := Lib.hid (H6.out.later (Below.refl _ w1).drew)
    have HRES := Lib.hid (fun W (hW : Below w1.heap.size w1.drew W) => show Headed R B N cap bs w (.returned (.tuple #[.int .u32 65536, .int .u16 8, .nilIface])) W from by
      have hb : Below w1.heap.size w1 W := (Below.refl _ w1).drew.trans hW
      exact ⟨rfl, HRD.out.later hb, HKEPT.out.trans (kept_of_below hb) (fun _ _ h => h.elim)⟩)
    go_region_held3 (fun W => W.cell? ⟨w.heap.size, 0, none⟩ = some (.int .u8 0) ∧ W.cell? ⟨w.heap.size, 1, none⟩ = some (.int .u8 1) ∧ W.cell? ⟨w.heap.size, 2, none⟩ = some (.int .u8 0) ∧ W.cell? ⟨w.heap.size, 3, none⟩ = some (.int .u8 0) ∧ W.cell? ⟨w.heap.size, 4, none⟩ = some (.int .u8 0) ∧ W.cell? ⟨w.heap.size, 5, none⟩ = some (.int .u8 8))
      (first | go_keep | assumption | (exact HH6.out))
      (first
        | (go_at_call 50; (with_reducible refine (HN.out _).mono ?_); rintro e w2 ⟨rfl, hw⟩; subst hw)
        | (go_at_call 133; (with_reducible refine (HU.out _ HH6.out).mono ?_); rintro e w2 ⟨rfl, hh2, hb2⟩; unfold Held6 at hh2; have HR2 := Lib.hid (HRES.out _ hb2)))
    all_goals
      go_wp2_with fail
      go_ret3
      exact HR2.out
end Go.Proofs.YtgggpllmgnpngaaGreatDoor.Tb
