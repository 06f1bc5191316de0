/- A tag written behind a table's bytes, walked. -/
import Derived.Test.YtgggpllmgnpngaaGreatDoorTbShort
import Derived.Lib.AppendStr
namespace Go.Proofs.YtgggpllmgnpngaaGreatDoor.Tb
open Go Go.RowKit

theorem str_where (w : World) (base t u ty e : TypeId) (i : TypeInfo) (ht : Tryz.prog.underlying t = some (.slice e)) (hu : Tryz.prog.underlying u = some .string) (hi : Tryz.prog.info? e = some i) (hz : i.zero = some (.int .u8 0)) (hsize : i.size = 1) (hby : i.bytes = 1)
    (v : Value) (n : Nat) (xs : List Value) (hown : w.ownsRow base e 1 v n xs) (s : ByteArray) (h0 : 0 < s.size) (hn : n + s.size ≤ 100000000) {v' : Value} {w' : World} (hr : (Builtin.append_ #[t, u] ty #[v, .string s]).run Tryz.prog w = .ok v' w') :
    v'.ownBlock = v.ownBlock ∨ v'.ownBlock = some w.heap.size := by
  have hxl : xs.length = n := by simpa using hown.1
  rcases hown.2 with ⟨rfl, rfl⟩ | ⟨g, cap, cur, rfl, hbg, hg, hnc, hcm, hcs, htake⟩
  · have hr2 := run_append_nil_string (P := Tryz.prog) w t u ty e i (.int .u8 0) ht hu hi hz s (by omega) (by omega) (by rw [hby]; omega)
    rw [hr2] at hr
    injection hr with h1 h2
    right; rw [← h1]; rfl
  · by_cases hroom : n + s.size ≤ cap
    · have hcs' : cur.size = cap := by simpa using hcs
      have hr2 := Lib.run_append_room_string (P := Tryz.prog) w t u ty e i ht hu hi hsize g n cap cur hg s hroom (by omega)
      rw [hr2] at hr
      injection hr with h1 h2
      left; rw [← h1]; rfl
    · have holds : ∀ j u, xs[j]? = some u → w.cell? ((⟨g, 0, none⟩ : Addr).add j) = some u := hown.cells (g := g) rfl
      have hr2 := Lib.run_append_grow_string (P := Tryz.prog) w t u ty e i (.int .u8 0) ht hu hi hz ⟨g, 0, none⟩ n cap xs (by rw [hsize]; simpa using hxl) holds s (by omega) (by omega) (by rw [hby]; exact growslice_fits (by omega) (by omega))
      rw [hr2] at hr
      injection hr with h1 h2
      right; rw [← h1]; rfl

theorem wpList_append_str {w : World} {ops : Array Oper} {rest : List Oper} {o : Oper} {a : Act} {Q : Exit → Act → World → Prop} (hgd : o.guard = none) (sl x : Operand) (t u : TypeId)
    (ho : o.op = .call { callee := .builtin .append, args := #[sl, x], argTypes := #[t, u] })
    (base : Nat) (e : TypeId) (i : TypeInfo) (ht : Tryz.prog.underlying t = some (.slice e)) (hu : Tryz.prog.underlying u = some .string) (hi : Tryz.prog.info? e = some i) (hz : i.zero = some (.int .u8 0))
    (hsize : i.size = 1) (hby : i.bytes = 1)
    (v : Value) (n : Nat) (xs : List Value) (hs : a.eval sl = v) (hown : w.ownsRow base e 1 v n xs) (s : ByteArray) (hx : a.eval x = .string s) (h0 : 0 < s.size)
    (hn : n + s.size ≤ 100000000) (hbase : base ≤ w.heap.size)
    (h : ∀ v' w', w'.ownsRow base e 1 v' (n + s.size) (xs ++ Lib.strCells s) → w.grownBy w' v.ownBlock → (v'.ownBlock = v.ownBlock ∨ v'.ownBlock = some w.heap.size) → wpList Tryz.prog ops Q rest (a.put o.dst v') w') : wpList Tryz.prog ops Q (o :: rest) a w := by
  refine wpList_plain hgd fun K hK => ?_
  obtain ⟨v', w', hr, h2, h3, h4⟩ := Lib.run_append_own_string (P := Tryz.prog) w base t u o.type e i ht hu hi hz hsize hby v n xs hown s (by unfold maxLen; omega) (by omega) hbase
  have h5 := str_where w base t u o.type e i ht hu hi hz hsize hby v n xs hown s h0 hn hr
  unfold Oper.wp execOp
  simp only [ho, resolve, invoke, builtin, Sem.run_bind, Sem.run_pure, Result.andThen_ok, List.map_toArray, List.map_cons, List.map_nil, hs, hx, hr]
  exact hK _ _ (h v' w' h2 h3 h5)

def strBytes (s : ByteArray) : List Nat := s.data.toList.map fun b => b.toNat
theorem strBytes_len (s : ByteArray) : (strBytes s).length = s.size := by simp [strBytes]
theorem strBytes_cells (s : ByteArray) : byteCells (strBytes s) = Lib.strCells s := by simp [byteCells, strBytes, Lib.strCells]
theorem strBytes_byte (s : ByteArray) : ∀ b ∈ strBytes s, b < 256 := by
  intro b hb
  unfold strBytes at hb
  obtain ⟨x, _, rfl⟩ := List.mem_map.1 hb
  exact x.toNat_lt

set_option maxRecDepth 100000 in
set_option maxHeartbeats 2000000 in
theorem text_any (T base : Nat) (bs : List Nat) (s : ByteArray) (lv v : Value) (w : World) (hs0 : 0 < s.size) (hs : s.size ≤ 100) (hbs : bs.length ≤ 100000) (ht : Tab T base bs lv w v) :
    Calls Tryz.prog 46 #[.pointer (some ⟨T, 0, none⟩), .string s] w fun e w' => e = .returned (.pointer (some ⟨T, 0, none⟩)) ∧ ∃ v', Wrote T base (bs ++ strBytes s) lv v w v' w' := by
  obtain ⟨i0, hi, hz0, hz1, hz2⟩ := info_parts info5
  have hc := ht.cell
  have hf := ht.free
  have hlow := ht.low
  have hsz := ht.size
  have hown := ht.own
  have HT := Lib.hid ht
  clear ht
  go_enter Tryz.func46, Tryz.ntmps46
  go_wp2_with (at_builtin; go_must (refine wpList_append_str rfl (.tmp 9) (.tmp 10) 24 9 rfl base 5 i0 Tryz.underlying24 Tryz.underlying9 hi hz0 hz1 hz2 _ _ _ rfl hown s rfl hs0 ?_ ?_ ?_))
  · omega
  · omega
  intro v2 w4 hown2 hg2 hat2
  obtain ⟨g2, cap2, cur2, rfl, _⟩ := own_form hown2 (by omega)
  rw [← strBytes_cells] at hown2
  have R := wrote_more (new := strBytes s) (o := none) (w := w) (v := v) ⟨HT.out, Or.inl rfl, Kept.refl _ _⟩ rfl (by rw [strBytes_len]) hown2 hg2 (hat2.imp id (fun h => ⟨_, h, Nat.le_refl _⟩))
  have HR := Lib.hid R.2
  obtain ⟨d0, d1⟩ := R.1
  clear R hown2 hg2 hat2 hown hc hf
  go_wp2
  go_ret
  exact ⟨rfl, _, HR.out⟩

set_option maxRecDepth 100000 in
set_option maxHeartbeats 2000000 in
theorem to4_any (T base : Nat) (bs : List Nat) (s : ByteArray) (lv v : Value) (w : World) (hs0 : 0 < s.size) (hs : s.size ≤ 100) (hbs : bs.length ≤ 100000) (ht : Tab T base bs lv w v) :
    Calls Tryz.prog 42 #[.pointer (some ⟨T, 0, none⟩), .string s] w fun e w' => e = .returned (.pointer (some ⟨T, 0, none⟩)) ∧ ∃ v', Wrote T base (bs ++ strBytes s) lv v w v' w' := by
  obtain ⟨i0, hi, hz0, hz1, hz2⟩ := info_parts info5
  have hc := ht.cell
  have hf := ht.free
  have hlow := ht.low
  have hsz := ht.size
  have hown := ht.own
  have HT := Lib.hid ht
  clear ht
  go_enter Tryz.func42, Tryz.ntmps42
  go_wp2_with (at_builtin; go_must (refine wpList_append_str rfl (.tmp 9) (.tmp 10) 24 9 rfl base 5 i0 Tryz.underlying24 Tryz.underlying9 hi hz0 hz1 hz2 _ _ _ rfl hown s rfl hs0 ?_ ?_ ?_))
  · omega
  · omega
  intro v2 w4 hown2 hg2 hat2
  obtain ⟨g2, cap2, cur2, rfl, _⟩ := own_form hown2 (by omega)
  rw [← strBytes_cells] at hown2
  have R := wrote_more (new := strBytes s) (o := none) (w := w) (v := v) ⟨HT.out, Or.inl rfl, Kept.refl _ _⟩ rfl (by rw [strBytes_len]) hown2 hg2 (hat2.imp id (fun h => ⟨_, h, Nat.le_refl _⟩))
  have HR := Lib.hid R.2
  obtain ⟨d0, d1⟩ := R.1
  clear R hown2 hg2 hat2 hown hc hf
  go_wp2
  go_ret
  exact ⟨rfl, _, HR.out⟩
theorem to4_n (T n : Nat) (w0 w : World) (s : ByteArray) (hs : s.size = 4) (hn : n ≤ 90000) (ht : TabN T n w0 w) :
    Calls Tryz.prog 42 #[.pointer (some ⟨T, 0, none⟩), .string s] w fun e w' => e = .returned (.pointer (some ⟨T, 0, none⟩)) ∧ TabN T (n + 4) w0 w' := by
  obtain ⟨hT, v, bs, h1, h2, h3, h4⟩ := ht
  refine (to4_any T (T + 1) bs s (.slice none 0 0) v w (by omega) (by omega) (by omega) h3).mono ?_
  rintro e w' ⟨rfl, v', hw⟩
  exact ⟨rfl, tab_wrote hT h3 h4 hw (by rw [strBytes_len]; omega) h2 (strBytes_byte _)⟩
theorem to4_x (T n X m : Nat) (cs : List Value) (w0 w : World) (s : ByteArray) (hs : s.size = 4) (hn : n ≤ 90000) (ht : TabX T n X m cs w0 w) :
    Calls Tryz.prog 42 #[.pointer (some ⟨T, 0, none⟩), .string s] w fun e w' => e = .returned (.pointer (some ⟨T, 0, none⟩)) ∧ TabX T (n + 4) X m cs w0 w' := by
  obtain ⟨hT, v, bs, h1, h2, h3, h4, h5⟩ := ht
  refine (to4_any T (T + 1) bs s (.slice none 0 0) v w (by omega) (by omega) (by omega) h3).mono ?_
  rintro e w' ⟨rfl, v', hw⟩
  exact ⟨rfl, tabx_wrote hT h3 h4 h5 hw (by rw [strBytes_len]; omega) h2 (strBytes_byte _)⟩
end Go.Proofs.YtgggpllmgnpngaaGreatDoor.Tb
