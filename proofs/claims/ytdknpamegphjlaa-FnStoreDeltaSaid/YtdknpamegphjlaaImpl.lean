/- impl.StoreDelta, walked. -/
import Derived.Test.YtdknpamegphjlaaGetD
namespace Go.Proofs.Ytdknpamegphjlaa.Sd
open Go Go.RowKit Ieee

def Impld (all : List (List Ax)) (cs regs row : List Int) (ax : Nat) (w : World) (e : Ending) (w' : World) : Prop := (∃ b, e = .returned (.tuple #[.float .f32 b, .bool true]) ∧ TotIs single all cs regs row ax regs.length b) ∧ Below w.heap.size w w'

theorem info65 : (Try.prog.info? 65).map (fun i => (i.zero, i.size, i.bytes)) = some (some (.int .i16 0), 1, 2) := by kernel_rfl

theorem good_ivds : Good IvdsR where
  kept := fun ⟨I, h1, h2, h3, h4⟩ k hs => ⟨I, h1, Nat.lt_of_lt_of_le h2 k.size, h3, fun j d hj => by
    obtain ⟨wd, rg, dl, a, b, c, e, f, h5, h6⟩ := h4 j d hj
    have z := fun i => World.cell?_of_block (a := ⟨I, i, none⟩) (k.block I h2 (fun h => h3 (hs I h2 h)))
    exact ⟨wd, rg, dl, (z _).trans a, (z _).trans b, (z _).trans c, (z _).trans e, (z _).trans f, good_u16.kept h5 k hs, good_i16.rows.kept h6 k hs⟩⟩
  sub := fun ⟨I, h1, h2, h3, h4⟩ hs => ⟨I, h1, h2, fun h => h3 (hs I h2 h), fun j d hj => by
    obtain ⟨wd, rg, dl, a, b, c, e, f, h5, h6⟩ := h4 j d hj
    exact ⟨wd, rg, dl, a, b, c, e, f, good_u16.sub h5 hs, good_i16.rows.sub h6 hs⟩⟩

/-- The coordinates made so far. -/
structure Cd (B : Nat) (w1 : World) (cs : List Int) (i : Nat) (v : Value) (W : World) : Prop where
  own : W.ownsRow (B + 1) 65 1 v i ((cs.take i).map fun x => .int .i16 x)
  below : Below (B + 1) w1 W
  size : B + 1 ≤ W.heap.size

theorem Cd.next {B i : Nat} {w1 wr w4 : World} {cs : List Int} {v v2 : Value} {x : Int} (h : Cd B w1 cs i v wr) (hx : cs[i]? = some x) (ho : w4.ownsRow (B + 1) 65 1 v2 (i + 1) ((cs.take i).map (fun x => .int .i16 x) ++ [.int .i16 x])) (hg : (wr.alloc (.cells #[.int .i16 x] 65)).grownBy w4 v.ownBlock) : Cd B w1 cs (i + 1) v2 w4 := by
  have h1 := hg.size
  rw [World.size_alloc] at h1
  have h2 := h.size
  refine ⟨?_, (kept_of_grown hg).below (h.below.alloc h2 _) (by rw [World.size_alloc]; omega) (fun q hq e => by have := (h.own.lt q e.symm).1; omega), by omega⟩
  rw [List.take_add_one, hx, List.map_append]
  exact ho

set_option maxRecDepth 1000000 in
set_option maxHeartbeats 8000000 in
theorem impl_any (g N cap X ax xcap m a b : Nat) (all : List (List Ax)) (l : List Dl) (cs : List Int) (ps : List (Dl × Nat)) (d : Dl) (row : List Int) (w : World) (hf : Fine all l cs ax m) (hpl : ps.length = l.length) (hps : PsOk l ps) (hN : (storeBytes ax all ps).length = N) (hcap : N ≤ cap) (hcm : cap ≤ 9223372036854775807) (hg : g < w.heap.size) (hr : Reads w g 0 (storeBytes ax all ps)) (hX : ∀ j x, cs[j]? = some x → w.cell? ⟨X, j, none⟩ = some (.int .i64 x)) (hd : l[a]? = some d) (hrow : d.items[b]? = some row) :
    Calls Try.prog 8 #[.slice (some ⟨g, 0, none⟩) N cap, .int .i64 a, .int .i64 b, .slice (some ⟨X, 0, none⟩) ax xcap] w (Impld all cs d.regs row ax w) := by
  obtain ⟨i0, hi, hz0, hz1, hz2⟩ := info_parts info65
  have ha4 : a < 4 := by have := (List.getElem?_eq_some_iff.1 hd).1; have := hf.lists.2.1; omega
  have hb5 : b < 5 := by
    have := (List.getElem?_eq_some_iff.1 hrow).1
    have := (hf.lists.2.2 d (List.mem_of_getElem? hd)).2.2.1
    have := hf.num.2
    omega
  have hI := Lib.hid (ivs_any g N cap ax m all l cs ps w hf hpl hps hN hcap hcm hg hr)
  have HF := Lib.hid hf
  have HX := Lib.hid hX
  have HD := Lib.hid (And.intro hd hrow)
  have ka0 : decide ((a : Int) < 0) = false := decide_eq_false (by omega)
  have ka1 : decide ((65535 : Int) < a) = false := decide_eq_false (by omega)
  have kb0 : decide ((b : Int) < 0) = false := decide_eq_false (by omega)
  have kb1 : decide ((65535 : Int) < b) = false := decide_eq_false (by omega)
  have kaw : IntKind.u16.wrap (a : Int) = a := by simp [IntKind.wrap, IntKind.bits, IntKind.signed]; omega
  have kbw : IntKind.u16.wrap (b : Int) = b := by simp [IntKind.wrap, IntKind.bits, IntKind.signed]; omega
  clear hf hpl hps hN hcap hcm hg hr hX hd hrow
  go_enter Try.func8, Try.ntmps8
  go_wp2_with fail
  refine hI.out.mono ?_
  rintro e w1 ⟨vv, dv, q, rfl, hvv, hdv, hb1⟩
  have HB1 := Lib.hid hb1
  have HV := Lib.hid (And.intro hvv hdv)
  obtain ⟨W1, hW1⟩ : ∃ W1, W1 = w1.alloc (.cells #[.int .u16 1, .int .u16 (ax : Nat), vv, dv] 59) := ⟨_, rfl⟩
  have hC0 : Cd w1.heap.size W1 cs 0 (.slice none 0 0) W1 := ⟨World.ownsRow_nil _ _ _ _, Below.refl _ _, by rw [hW1, World.size_alloc]; omega⟩
  have HC0 := Lib.hid hC0
  have HW1 := Lib.hid hW1
  obtain ⟨VA, vn, vcap, rfl⟩ : ∃ A n cap, vv = .slice A n cap := by
    obtain ⟨_, _, h2, _⟩ := hvv
    obtain ⟨A, cp, h, _⟩ := h2.len
    exact ⟨A, _, cp, h⟩
  obtain ⟨I, hdv1⟩ : ∃ I, dv = .slice (some ⟨I, 0, none⟩) l.length l.length := by
    obtain ⟨I, h, _⟩ := hdv
    exact ⟨I, h⟩
  subst hdv1
  clear hI hvv hdv hb1 hW1 hC0
  go_wp2_with fail
  go_loopg [13, 42] (ax) (fun gk sv iv W => ∃ (i : Nat), gk = ax - i ∧ i ≤ ax ∧ iv = .int .i64 i ∧ Cd w1.heap.size W1 cs i sv W)
  case atStart => exact ⟨0, rfl, Nat.zero_le _, rfl, by rw [← HW1.out]; exact HC0.out⟩
  case round =>
    obtain ⟨i, hgk, hin, rfl, hcd⟩ := hrel
    have HKM := Lib.hid hgk
    have HCD := Lib.hid hcd
    have hbA : Below w1.heap.size w1 wr := (show Below w1.heap.size w1 W1 by rw [HW1.out]; exact (Below.refl _ _).alloc (Nat.le_refl _) _).trans (hcd.below.mono (by omega))
    have hbW : Below w.heap.size w wr := HB1.out.trans (hbA.mono HB1.out.size)
    by_cases hlt : i < ax
    · obtain ⟨x, hx⟩ : ∃ x, cs[i]? = some x := ⟨_, List.getElem?_eq_getElem (by have := HF.out.coord.1; omega)⟩
      have k0 := below_cell hbW (HX.out i x hx)
      have hxb := HF.out.coord.2 x (List.mem_of_getElem? hx)
      have hC := Lib.hid (sixteen_any x wr (by omega))
      have hown := hcd.own
      have hsz := hcd.size
      have ax3 := HF.out.axl.2
      have HX2 := Lib.hid hx
      have hil : ((cs.take i).map fun x => (Value.int .i16 x)).length = i := by rw [List.length_map, List.length_take]; have := HF.out.coord.1; omega
      have HIL := Lib.hid hil
      clear hgk hcd hbA hbW hx hil
      go_wp2_with fail
      refine hC.out.mono ?_
      rintro e w2 ⟨rfl, hw2⟩
      subst hw2
      clear hC
      go_wp2_with (at_builtin; go_must (refine wpList_append_own_at _ rfl (.tmp 46) (.tmp 49) 64 rfl (w1.heap.size + 1) 65 i0 (.int .i16 0) 1 2 Try.underlying64 hi hz0 hz1 hz2 rfl (by decide) _ _ _ rfl (hown.alloc _) ⟨wr.heap.size, 0, none⟩ 1 1 [.int .i16 x] rfl rfl (cells_new wr [.int .i16 x] 65) (ints_oneCell .i16 [_]) ?_ ?_ ?_ ?_))
      · unfold maxLen; omega
      · omega
      · rw [World.size_alloc]; omega
      intro v2 w4 hown2 hg2 _ hat2
      have HN := Lib.hid (HCD.out.next HX2.out (by rw [List.map_take]; exact hown2) hg2)
      obtain ⟨g2, cap2, cur2, rfl, _⟩ := own_form hown2 (by omega)
      clear hown2 hg2 hat2 hown
      go_wp2_with fail
      go_roundg (ax - (i + 1))
      case measure => have := HKM.out; omega
      case rel => exact ⟨i + 1, rfl, by omega, by go_num, HN.out⟩
    · have hi2 : i = ax := by omega
      subst hi2
      have hct : cs.take i = cs := List.take_of_length_le (by have := HF.out.coord.1; omega)
      have hown := hcd.own
      rw [hct] at hown
      obtain ⟨K, kcap, cur, rfl, hk⟩ := own_form hown HF.out.axl.1
      have hnew : W1.heap[w1.heap.size]? = some (.cells #[.int .u16 1, .int .u16 (i : Nat), .slice VA vn vcap, .slice (some ⟨I, 0, none⟩) l.length l.length] 59 (0, 0)) := by rw [HW1.out]; exact heap_alloc_new w1 _
      have hrow0 := (hcd.below.block w1.heap.size (by omega)).trans hnew
      have c0 : wr.cell? ⟨w1.heap.size, 0, none⟩ = some (.int .u16 1) := by rw [cell_in hrow0]; rfl
      have c1 : wr.cell? ⟨w1.heap.size, 1, none⟩ = some (.int .u16 (i : Nat)) := by rw [cell_in hrow0]; rfl
      have c2 : wr.cell? ⟨w1.heap.size, 2, none⟩ = some (.slice VA vn vcap) := by rw [cell_in hrow0]; rfl
      have c3 : wr.cell? ⟨w1.heap.size, 3, none⟩ = some (.slice (some ⟨I, 0, none⟩) l.length l.length) := by rw [cell_in hrow0]; rfl
      have hC := Lib.hid (getd_any K i kcap m a b _ _ all l cs d row wr HF.out (good_ax16.rows.kept HV.out.1 (kept_of_below hbA) (fun _ _ h => h.elim)) (good_ivds.kept HV.out.2 (kept_of_below hbA) (fun _ _ h => h.elim)) ⟨hk.2.2.1, by have := hk.2.2.2.1; unfold maxLen at this; omega⟩ (fun j x hj => by
        have hjl := (List.getElem?_eq_some_iff.1 hj).1
        rw [hown.cellAt j (by have := HF.out.coord.1; omega)]
        simp [hj]) HD.out.1 HD.out.2 (by omega))
      have HBW := Lib.hid hbW
      have ki : ¬ (i : Int) < i := by omega
      clear hgk hcd hbA hbW hown hk hrow0 hnew
      go_wp2_with fail
      refine hC.out.mono ?_
      rintro e w2 ⟨⟨z, rfl, hz⟩, hb2⟩
      have HZ := Lib.hid (And.intro hz (HBW.out.trans (hb2.mono HBW.out.size)))
      clear hz hb2
      go_wp2_with fail
      all_goals
        go_ret2
        exact ⟨⟨_, rfl, HZ.out.1⟩, HZ.out.2⟩
end Go.Proofs.Ytdknpamegphjlaa.Sd
