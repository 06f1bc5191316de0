/- The store parsed, walked. -/
import Derived.Test.YtdknpamegphjlaaIvd
namespace Go.Proofs.Ytdknpamegphjlaa.Sd
open Go Go.RowKit

theorem Reads.word {w : World} {g off : Nat} {vs : List Int} (h : Reads w g off (shorts vs)) {j o : Nat} (ho : o < 4294967296) (h1 : vs[j]? = some ((o : Int) / 65536)) (h2 : vs[j + 1]? = some (o : Int)) :
    ∃ a b c d : Nat, a < 256 ∧ b < 256 ∧ c < 256 ∧ d < 256 ∧ ((a * 256 + b) * 256 + c) * 256 + d = o ∧ w.cell? ⟨g, off + 2 * j, none⟩ = some (.int .u8 (a : Nat)) ∧ w.cell? ⟨g, off + 2 * j + 1, none⟩ = some (.int .u8 (b : Nat)) ∧ w.cell? ⟨g, off + 2 * j + 2, none⟩ = some (.int .u8 (c : Nat)) ∧ w.cell? ⟨g, off + 2 * j + 3, none⟩ = some (.int .u8 (d : Nat)) := by
  obtain ⟨a1, a2⟩ := h.two h1
  obtain ⟨b1, b2⟩ := h.two h2
  rw [show off + 2 * (j + 1) = off + 2 * j + 2 by omega] at b1 b2
  exact ⟨_, _, _, _, by omega, by omega, by omega, by omega, by omega, a1, a2, b1, b2⟩

theorem longs_at : ∀ (l : List Int) (i : Nat) (x : Int), l[i]? = some x → (longs l)[2 * i]? = some (x / 65536) ∧ (longs l)[2 * i + 1]? = some x
  | [], i, x, h => by simp at h
  | y :: l, 0, x, h => by simp at h; subst h; exact ⟨rfl, rfl⟩
  | y :: l, i + 1, x, h => by
    have := longs_at l i x (by simpa using h)
    have e : longs (y :: l) = y / 65536 :: y :: longs l := by simp [longs]
    rw [e, show 2 * (i + 1) = 2 * i + 1 + 1 by omega]
    simpa using this
theorem offs_at : ∀ (ps : List (Dl × Nat)) (a i : Nat), i < ps.length → (offs a ps)[i]? = some ((a + (datas (ps.take i)).length : Nat) : Int)
  | [], a, i, h => by simp at h
  | p :: ps, a, 0, h => by simp [offs, datas]
  | p :: ps, a, i + 1, h => by
    have := offs_at ps (a + (dataBytes p).length) i (by simpa using h)
    simp only [offs, List.getElem?_cons_succ, this]
    simp [datas, Nat.add_assoc]
theorem datas_split (ps : List (Dl × Nat)) {i : Nat} {p : Dl × Nat} (h : ps[i]? = some p) : datas ps = datas (ps.take i) ++ (dataBytes p ++ datas (ps.drop (i + 1))) := by
  obtain ⟨h1, h2⟩ := List.getElem?_eq_some_iff.1 h
  conv => lhs; rw [← List.take_append_drop i ps, List.drop_eq_getElem_cons h1, h2]
  simp [datas]
theorem longs_len (l : List Int) : (longs l).length = 2 * l.length := by
  induction l with
  | nil => rfl
  | cons x l ih => simp [longs] at ih ⊢; omega
theorem offs_len : ∀ (ps : List (Dl × Nat)) (a : Nat), (offs a ps).length = ps.length
  | [], _ => rfl
  | p :: ps, a => by simp [offs, offs_len ps]
theorem headBytes_len (n a : Nat) (ps : List (Dl × Nat)) : (headBytes n a ps).length = 8 + 4 * ps.length := by
  unfold headBytes
  rw [shorts_len, List.length_append, longs_len, offs_len]
  simp
  omega

def z4 : List Value := [.int .u16 0, .int .u16 0, .slice none 0 0, .slice none 0 0]
theorem info85 : (Try.prog.info? 85).map (fun i => (i.zero, i.size, i.bytes)) = some (some (.agg #[.int .u16 0, .int .u16 0, .int .u16 0, .slice none 0 0, .slice none 0 0]), 5, 56) := by kernel_rfl

/-- The lists as parsed, the first i of them. -/
structure IRows (I nl i : Nat) (l : List Dl) (W : World) : Prop where
  row : ∃ cur : List Value, W.heap[I]? = some (.cells cur.toArray 85 (0, 0)) ∧ cur.length = nl * 5 ∧ ∀ (k : Nat) (d : Dl), k < i → l[k]? = some d → ∃ (wd : Nat) (rg dl : Value), cur[k * 5]? = some (.int .u16 (d.items.length : Nat)) ∧ cur[k * 5 + 1]? = some (.int .u16 (wd : Nat)) ∧ cur[k * 5 + 2]? = some (.int .u16 (d.regs.length : Nat)) ∧ cur[k * 5 + 3]? = some rg ∧ cur[k * 5 + 4]? = some dl ∧ IvdR (fun q => q ≤ I) W rg dl d

theorem ivd_kept {S S1 : Nat → Prop} {w w' : World} {rg dl : Value} {d : Dl} (h : IvdR S w rg dl d) (k : Kept S1 w w') (hs : ∀ q, q < w.heap.size → S1 q → S q) : IvdR S w' rg dl d := ⟨good_u16.kept h.1 k hs, good_i16.rows.kept h.2 k hs⟩
theorem ivd_sub {S S1 : Nat → Prop} {w : World} {rg dl : Value} {d : Dl} (h : IvdR S w rg dl d) (hs : ∀ q, q < w.heap.size → S1 q → S q) : IvdR S1 w rg dl d := ⟨good_u16.sub h.1 hs, good_i16.rows.sub h.2 hs⟩
theorem IRows.later {I nl i : Nat} {l : List Dl} {W W' : World} (h : IRows I nl i l W) (k : Below W.heap.size W W') : IRows I nl i l W' := by
  obtain ⟨cur, h1, h2, h3⟩ := h.row
  refine ⟨cur, (k.block I (Array.getElem?_eq_some_iff.1 h1).1).trans h1, h2, fun q d hq hd => ?_⟩
  obtain ⟨wd, rg, dl, a, b, c, e, f, g⟩ := h3 q d hq hd
  exact ⟨wd, rg, dl, a, b, c, e, f, ivd_kept g (kept_of_below k) (fun _ _ h => h.elim)⟩
theorem IRows.cell {I nl i k : Nat} {l : List Dl} {W : World} (h : IRows I nl i l W) (hk : k < nl * 5) : (∃ u, W.cell? ⟨I, k, none⟩ = some u) ∧ W.frozen? ⟨I, k, none⟩ = false := by
  obtain ⟨cur, h1, h2, h3⟩ := h.row
  refine ⟨⟨cur[k]'(by omega), ?_⟩, frozen_in h1⟩
  rw [cell_in h1]
  simp
theorem IRows.next {I nl i wd : Nat} {l : List Dl} {W : World} {d : Dl} {rg dl : Value} (h : IRows I nl i l W) (hd : l[i]? = some d) (hi : i < nl) (hr : IvdR (fun q => q ≤ I) W rg dl d) :
    IRows I nl (i + 1) l (((((W.setCell ⟨I, i * 5, none⟩ (.int .u16 (d.items.length : Nat))).setCell ⟨I, i * 5 + 1, none⟩ (.int .u16 (wd : Nat))).setCell ⟨I, i * 5 + 2, none⟩ (.int .u16 (d.regs.length : Nat))).setCell ⟨I, i * 5 + 3, none⟩ rg).setCell ⟨I, i * 5 + 4, none⟩ dl) := by
  obtain ⟨cur, h1, h2, h3⟩ := h.row
  have ks : Kept (fun q => q = I) W (((((W.setCell ⟨I, i * 5, none⟩ (.int .u16 (d.items.length : Nat))).setCell ⟨I, i * 5 + 1, none⟩ (.int .u16 (wd : Nat))).setCell ⟨I, i * 5 + 2, none⟩ (.int .u16 (d.regs.length : Nat))).setCell ⟨I, i * 5 + 3, none⟩ rg).setCell ⟨I, i * 5 + 4, none⟩ dl) :=
    ((((kept_set W I _ _).trans (kept_set _ I _ _) (fun _ _ h => h)).trans (kept_set _ I _ _) (fun _ _ h => h)).trans (kept_set _ I _ _) (fun _ _ h => h)).trans (kept_set _ I _ _) (fun _ _ h => h)
  have s5 := set_row (j := i * 5 + 4) (x := dl) (set_row (j := i * 5 + 3) (x := rg) (set_row (j := i * 5 + 2) (x := .int .u16 (d.regs.length : Nat)) (set_row (j := i * 5 + 1) (x := .int .u16 (wd : Nat)) (set_row (j := i * 5) (x := .int .u16 (d.items.length : Nat)) h1))))
  refine ⟨((((cur.set (i * 5) (.int .u16 (d.items.length : Nat))).set (i * 5 + 1) (.int .u16 (wd : Nat))).set (i * 5 + 2) (.int .u16 (d.regs.length : Nat))).set (i * 5 + 3) rg).set (i * 5 + 4) dl, by simpa using s5, by simpa using h2, fun k e hk he => ?_⟩
  have hlen : i * 5 + 5 ≤ cur.length := by omega
  by_cases hki : k = i
  · subst hki
    rw [hd] at he
    obtain rfl := Option.some.inj he
    refine ⟨wd, rg, dl, ?_, ?_, ?_, ?_, ?_, ivd_kept hr ks (fun q _ h => by omega)⟩
    · rw [List.getElem?_set_ne (by omega), List.getElem?_set_ne (by omega), List.getElem?_set_ne (by omega), List.getElem?_set_ne (by omega), List.getElem?_set_self (by omega)]
    · rw [List.getElem?_set_ne (by omega), List.getElem?_set_ne (by omega), List.getElem?_set_ne (by omega), List.getElem?_set_self (by rw [List.length_set]; omega)]
    · rw [List.getElem?_set_ne (by omega), List.getElem?_set_ne (by omega), List.getElem?_set_self (by rw [List.length_set, List.length_set]; omega)]
    · rw [List.getElem?_set_ne (by omega), List.getElem?_set_self (by rw [List.length_set, List.length_set, List.length_set]; omega)]
    · rw [List.getElem?_set_self (by rw [List.length_set, List.length_set, List.length_set, List.length_set]; omega)]
  · obtain ⟨wd', rg', dl', a, b, c, e', f, g⟩ := h3 k e (by omega) he
    refine ⟨wd', rg', dl', ?_, ?_, ?_, ?_, ?_, ivd_kept g ks (fun q _ h => by omega)⟩
    all_goals
      rw [List.getElem?_set_ne (by omega), List.getElem?_set_ne (by omega), List.getElem?_set_ne (by omega), List.getElem?_set_ne (by omega), List.getElem?_set_ne (by omega)]
      assumption

theorem item_kept {ty : TypeId} {z c : List Value} {w W W' : World} {S : Nat → Prop} (h : Item ty z w W c) (k : Kept S W W') (hS : ∀ q, S q → w.heap.size + 2 ≤ q) : Item ty z w W' c := by
  have hs := h.size
  exact ⟨(k.block _ (by omega) (fun h => by have := hS _ h; omega)).trans h.row0, (k.block _ (by omega) (fun h => by have := hS _ h; omega)).trans h.row, Nat.le_trans hs k.size, k.below h.below (by omega) (fun q hq h => by have := hS q h; omega)⟩

/-- The store as parsed. -/
def IvdsR (S : Nat → Prop) (w : World) (v : Value) (l : List Dl) : Prop :=
  ∃ I, v = .slice (some ⟨I, 0, none⟩) l.length l.length ∧ I < w.heap.size ∧ ¬ S I ∧ ∀ (k : Nat) (d : Dl), l[k]? = some d → ∃ (wd : Nat) (rg dl : Value), w.cell? ⟨I, k * 5, none⟩ = some (.int .u16 (d.items.length : Nat)) ∧ w.cell? ⟨I, k * 5 + 1, none⟩ = some (.int .u16 (wd : Nat)) ∧ w.cell? ⟨I, k * 5 + 2, none⟩ = some (.int .u16 (d.regs.length : Nat)) ∧ w.cell? ⟨I, k * 5 + 3, none⟩ = some rg ∧ w.cell? ⟨I, k * 5 + 4, none⟩ = some dl ∧ IvdR S w rg dl d
def IvsP (ax : Nat) (all : List (List Ax)) (l : List Dl) (w : World) (e : Ending) (w' : World) : Prop :=
  ∃ (vv dv : Value) (q : Int), e = .returned (.tuple #[.agg #[.int .u16 1, .int .u16 (ax : Nat), vv, dv], .int .i64 q, .nilIface]) ∧ Rows' Ax16R None' w' vv all ∧ IvdsR None' w' dv l ∧ Below w.heap.size w w'
end Go.Proofs.Ytdknpamegphjlaa.Sd
