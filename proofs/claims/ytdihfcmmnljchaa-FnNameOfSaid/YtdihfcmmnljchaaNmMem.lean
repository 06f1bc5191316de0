/- What lies in memory while a table of names is written. -/
import Derived.Test.YtdihfcmmnljchaaNmName
import Derived.Laws.AppendOwnNone
import Derived.Laws.IdiomStrings
namespace Go.Proofs.Ytdihfcmmnljchaa.Nm
open Go Go.RowKit

/-- A row of bytes to be read, made at lo or later. -/
def Src (W : World) (lo : Nat) (bv : Value) (b : List Nat) : Prop :=
  (bv = .slice none 0 0 ∧ b = []) ∨ ∃ q cap, bv = .slice (some ⟨q, 0, none⟩) b.length cap ∧ lo ≤ q ∧ q < W.heap.size ∧ ∀ j x, b[j]? = some x → W.cell? ⟨q, j, none⟩ = some (.int .u8 (x : Nat))

theorem Src.slice {W : World} {lo : Nat} {bv : Value} {b : List Nat} (h : Src W lo bv b) : ∃ A cap, bv = .slice A b.length cap := by
  rcases h with ⟨rfl, rfl⟩ | ⟨q, cap, rfl, _⟩
  · exact ⟨none, 0, rfl⟩
  · exact ⟨_, _, rfl⟩
theorem Src.bytes {W : World} {lo : Nat} {A : Option Addr} {n cap : Nat} {b : List Nat} (h : Src W lo (.slice A n cap) b) : Bytes W A b := by
  intro hp
  rcases h with ⟨_, rfl⟩ | ⟨q, c, e, _, _, hc⟩
  · simp at hp
  · injection e with e _ _
    exact ⟨q, 0, e, fun j x hj => by rw [Nat.zero_add]; exact hc j x hj⟩
theorem Src.later {W W' : World} {lo B : Nat} {bv : Value} {b : List Nat} (h : Src W lo bv b) (hb : Below B W W') (hB : W.heap.size ≤ B) : Src W' lo bv b := by
  rcases h with h | ⟨q, cap, e, h1, h2, hc⟩
  · exact Or.inl h
  · exact Or.inr ⟨q, cap, e, h1, Nat.lt_of_lt_of_le h2 hb.size, fun j x hj => by rw [← hc j x hj]; exact hb.cell (by show q < B; omega)⟩
theorem byteCells_len (b : List Nat) : (byteCells b).length = b.length := by simp [byteCells]
theorem byteCells_get {b : List Nat} {j : Nat} {u : Value} (h : (byteCells b)[j]? = some u) : ∃ x, b[j]? = some x ∧ u = .int .u8 (x : Nat) := by
  simp [byteCells] at h
  obtain ⟨x, hx, e⟩ := h
  exact ⟨x, hx, e.symm⟩
theorem own_src {W : World} {base : Nat} {v : Value} {b : List Nat} (h : W.ownsRow base 5 1 v b.length (byteCells b)) : Src W base v b := by
  by_cases h0 : b = []
  · rcases h.2 with ⟨rfl, _⟩ | ⟨g, cap, cur, rfl, hg, hh, h1, h2, h3, h4⟩
    · exact Or.inl ⟨rfl, h0⟩
    · refine Or.inr ⟨g, cap, rfl, hg, (Array.getElem?_eq_some_iff.1 hh).1, fun j x hj => by rw [h0] at hj; simp at hj⟩
  · have hp : 0 < b.length := List.length_pos_iff.mpr h0
    have hh := h
    obtain ⟨g, cap, cur, rfl, hg, hr, h1, h2, h3, h4⟩ := Row.own_form hh hp
    refine Or.inr ⟨g, cap, rfl, hg, (Array.getElem?_eq_some_iff.1 hr).1, fun j x hj => ?_⟩
    have hjl := (List.getElem?_eq_some_iff.1 hj).1
    rw [h.cellAt j (by omega)]
    simp [byteCells, hj]
theorem byteCells_one (b : List Nat) : ∀ u ∈ byteCells b, u.oneCell' = true := by
  intro u hu
  simp only [byteCells, List.mem_map] at hu
  obtain ⟨x, _, rfl⟩ := hu
  rfl

/-- 'append' of such a row to a row that is owned. -/
theorem wpList_append_src {w : World} {ops : Array Oper} {rest : List Oper} {o : Oper} {a : Act} {Q : Exit → Act → World → Prop} (hgd : o.guard = none) (s x : Operand)
    (ho : o.op = .call { callee := .builtin .append, args := #[s, x], argTypes := #[24, 24] }) (base lo : Nat) (v bv : Value) (d b : List Nat) (hs : a.eval s = v) (hx : a.eval x = bv)
    (hown : w.ownsRow base 5 1 v d.length (byteCells d)) (hsrc : Src w lo bv b) (hd : d.length ≤ 100000) (hb : b.length ≤ 100000) (hbase : base ≤ w.heap.size)
    (h : ∀ v' w', w'.ownsRow base 5 1 v' (d ++ b).length (byteCells (d ++ b)) → w.grownBy w' v.ownBlock → (v'.ownBlock = v.ownBlock ∨ v'.ownBlock = some w.heap.size) → wpList Try.prog ops Q rest (a.put o.dst v') w') :
    wpList Try.prog ops Q (o :: rest) a w := by
  obtain ⟨i0, hi, hz0, hz1, hz2⟩ := info_parts info5
  rcases hsrc with ⟨rfl, rfl⟩ | ⟨q, cap, rfl, h1, h2, hc⟩
  · refine wpList_append_own_none hgd s x 24 ho base 5 i0 1 Try.underlying24 hi v d.length (byteCells d) hs hown hx ?_
    refine h v w (by simpa using hown) ⟨rfl, rfl, rfl, Nat.le_refl _, fun _ _ _ => rfl⟩ (Or.inl rfl)
  · refine wpList_append_own_at w hgd s x 24 ho base 5 i0 _ 1 1 Try.underlying24 hi hz0 hz1 hz2 rfl (by decide) v d.length (byteCells d) hs hown ⟨q, 0, none⟩ b.length cap (byteCells b) hx (by simp [byteCells]) (fun j u hj => ?_) (byteCells_one b) (by unfold maxLen; omega) (by omega) hbase (fun v' w' h5 h6 _ h7 => h v' w' ?_ h6 h7)
    · obtain ⟨x, hx, rfl⟩ := byteCells_get hj
      rw [Addr.add_lit, Nat.zero_add]
      exact hc j x hx
    · rw [byteCells_append, List.length_append]
      exact h5

theorem cell_in' {w : World} {g j : Nat} {cur : Array Value} {t : TypeId} {fz : Nat × Nat} (h : w.heap[g]? = some (.cells cur t fz)) : w.cell? ⟨g, j, none⟩ = cur[j]? := by
  simp [World.cell?, h]

/-- The bytes of a text as a row. -/
theorem src_text (W : World) (lo : Nat) (rs : List Nat) (h : ∀ r ∈ rs, r < 128) (hlo : lo ≤ W.heap.size) (cap : Nat) (fz : Nat × Nat) :
    (str rs).size = rs.length ∧ Src (W.alloc (.cells (bytesRow (str rs) cap) 5 fz)) lo (.slice (some ⟨W.heap.size, 0, none⟩) rs.length cap) rs := by
  have e := utf8_ascii rs h
  have hs : (str rs).size = rs.length := by rw [size_str, e, List.length_map]
  refine ⟨hs, Or.inr ⟨W.heap.size, cap, rfl, hlo, by rw [World.size_alloc]; omega, fun j x hj => ?_⟩⟩
  have hjl := (List.getElem?_eq_some_iff.1 hj)
  have hd : (str rs).data.size = rs.length := hs
  have hnew : (W.alloc (.cells (bytesRow (str rs) cap) 5 fz)).cell? ⟨W.heap.size, j, none⟩ = (bytesRow (str rs) cap)[j]? := cell_in' (heap_alloc_new W _)
  rw [hnew, bytesRow_at _ _ _ (by rw [hd]; exact hjl.1)]
  have hx : ((str rs).data[j]'(by rw [hd]; exact hjl.1)) = UInt8.ofNat x := by
    have : (str rs).data = (rs.map UInt8.ofNat).toArray := by unfold str; rw [e]
    simp only [this]
    simp
    rw [hjl.2]
  rw [hx, toNat_lt x (by have := h x (List.mem_of_getElem? hj); omega)]

/-- The memory while the table is written. -/
structure Mem (w0 : World) (R T b0 g' capr nw capw : Nat) (A : Option Addr) (l' : List Rec) (c : Nat) (ts d : List Nat) (tv dv : Value) (W : World) : Prop where
  writer : Writer R A nw capw c W
  tab : Tab T (T + 1) ts W tv
  data : W.ownsRow (T + 1) 5 1 dv d.length (byteCells d)
  apart : ∀ q, dv.ownBlock = some q → tv.ownBlock ≠ some q
  recs : W.ownsRow b0 35 3 (.slice (some ⟨g', 0, none⟩) l'.length capr) l'.length (recCells l')
  below : Below w0.heap.size w0 W
  hRT : R < T
  hgT : g' < T
  hRg : R ≠ g'
  hR : w0.heap.size ≤ R
  hT : T < W.heap.size

section
variable {w0 : World} {R T b0 g' capr nw capw : Nat} {A : Option Addr} {l' : List Rec} {c : Nat} {ts d : List Nat} {tv dv : Value} {W : World}

theorem Mem.later (h : Mem w0 R T b0 g' capr nw capw A l' c ts d tv dv W) {W' : World} (hb : Below W.heap.size W W') : Mem w0 R T b0 g' capr nw capw A l' c ts d tv dv W' := by
  have hT := h.hT
  have hRT := h.hRT
  have hs := hb.size
  have hbel := h.below.size
  exact ⟨⟨by rw [← h.writer.ways]; exact hb.cell (by show R < _; omega), by rw [← h.writer.count]; exact hb.cell (by show R < _; omega), by rw [← h.writer.free]; exact hb.frozen (by show R < _; omega)⟩,
    ⟨by rw [← h.tab.cell]; exact hb.cell hT, by rw [← h.tab.free]; exact hb.frozen hT, own_block h.tab.own (fun q hq => hb.block q (h.tab.own.lt q hq).2), h.tab.low, by omega⟩,
    own_block h.data (fun q hq => hb.block q (h.data.lt q hq).2), h.apart, own_block h.recs (fun q hq => hb.block q (h.recs.lt q hq).2), h.below.trans (hb.mono hbel), hRT, h.hgT, h.hRg, h.hR, by omega⟩

theorem Mem.chose (h : Mem w0 R T b0 g' capr nw capw A l' c ts d tv dv W) {W' : World} (hc : Chose R A nw capw c W W') : ∃ c', c' ≤ c + 1 ∧ Mem w0 R T b0 g' capr nw capw A l' c' ts d tv dv W' := by
  have hT := h.hT
  have hRT := h.hRT
  have hs := hc.kept.size
  obtain ⟨c', hc', hw⟩ := hc.writer
  refine ⟨c', hc', hw, ⟨by rw [← h.tab.cell]; exact World.cell?_of_block (hc.kept.block T hT (by omega)), by rw [← h.tab.free]; exact World.frozen?_of_block (hc.kept.block T hT (by omega)), hc.kept.own h.tab.own (fun q hq e => by have := (h.tab.own.lt q hq).1; omega), h.tab.low, by omega⟩,
    hc.kept.own h.data (fun q hq e => by have := (h.data.lt q hq).1; omega), h.apart, hc.kept.own h.recs (fun q hq e => by have : q = g' := (Option.some.inj hq).symm; have := h.hRg; omega), Kept.below h.below hc.kept h.below.size (fun q hq e => by have := h.hR; omega), hRT, h.hgT, h.hRg, h.hR, by omega⟩

theorem Mem.grown (h : Mem w0 R T b0 g' capr nw capw A l' c ts d tv dv W) {W' : World} {d' : List Nat} {dv' : Value} (hg : W.grownBy W' dv.ownBlock) (hb : dv'.ownBlock = dv.ownBlock ∨ dv'.ownBlock = some W.heap.size) (ho : W'.ownsRow (T + 1) 5 1 dv' d'.length (byteCells d')) :
    Mem w0 R T b0 g' capr nw capw A l' c ts d' tv dv' W' := by
  have hT := h.hT
  have hRT := h.hRT
  have hgT := h.hgT
  have hs := hg.size
  have hbl : ∀ q, q < W.heap.size → q ≤ T → W'.heap[q]? = W.heap[q]? := fun q hq hqT => hg.block q hq (fun e => by have := (h.data.lt q e.symm).1; omega)
  refine ⟨⟨by rw [← h.writer.ways]; exact World.cell?_of_block (hbl R (by omega) (by omega)), by rw [← h.writer.count]; exact World.cell?_of_block (hbl R (by omega) (by omega)), by rw [← h.writer.free]; exact World.frozen?_of_block (hbl R (by omega) (by omega))⟩,
    ⟨by rw [← h.tab.cell]; exact World.cell?_of_block (hbl T hT (by omega)), by rw [← h.tab.free]; exact World.frozen?_of_block (hbl T hT (by omega)), own_block h.tab.own (fun q hq => hg.block q (h.tab.own.lt q hq).2 (fun e => h.apart q e.symm hq)), h.tab.low, by omega⟩,
    ho, fun q hq => ?_, own_block h.recs (fun q hq => hbl q (h.recs.lt q hq).2 (by have : q = g' := (Option.some.inj hq).symm; omega)), ?_, hRT, hgT, h.hRg, h.hR, by omega⟩
  · rcases hb with e | e
    · rw [e] at hq; exact h.apart q hq
    · rw [e] at hq
      intro e2
      have := (h.tab.own.lt q e2).2
      have := Option.some.inj hq
      omega
  · exact h.below.grown hg h.below.size (fun q hq => by have := (h.data.lt q hq).1; have := h.hR; omega)

theorem Mem.wrote (h : Mem w0 R T b0 g' capr nw capw A l' c ts d tv dv W) {W' : World} {ts' : List Nat} {tv' : Value} (hw : Wrote T (T + 1) ts' tv W tv' W') : Mem w0 R T b0 g' capr nw capw A l' c ts' d tv' dv W' := by
  have hT := h.hT
  have hRT := h.hRT
  have hgT := h.hgT
  have hs := hw.kept.size
  have hlow : ∀ q, q < W.heap.size → q < T → W'.heap[q]? = W.heap[q]? := fun q hq hqT => hw.kept.block q hq (by
    rintro (e | e)
    · omega
    · have := (h.tab.own.lt q e.symm).1; omega)
  have hdat : ∀ q, dv.ownBlock = some q → W'.heap[q]? = W.heap[q]? := fun q hq => hw.kept.block q (h.data.lt q hq).2 (by
    rintro (e | e)
    · have := (h.data.lt q hq).1; omega
    · exact h.apart q hq e.symm)
  refine ⟨⟨by rw [← h.writer.ways]; exact World.cell?_of_block (hlow R (by omega) hRT), by rw [← h.writer.count]; exact World.cell?_of_block (hlow R (by omega) hRT), by rw [← h.writer.free]; exact World.frozen?_of_block (hlow R (by omega) hRT)⟩,
    hw.tab, own_block h.data hdat, fun q hq e => ?_, own_block h.recs (fun q hq => hlow q (h.recs.lt q hq).2 (by have : q = g' := (Option.some.inj hq).symm; omega)), ?_, hRT, hgT, h.hRg, h.hR, by omega⟩
  · rcases hw.born with e1 | ⟨p, e1, e2⟩
    · rw [e1] at e; exact h.apart q hq e
    · rw [e1] at e
      have := Option.some.inj e
      have := (h.data.lt q hq).2
      omega
  · exact Kept.below h.below hw.kept h.below.size (fun q hq e => by
      have := h.hR
      rcases e with e | e
      · omega
      · have := (h.tab.own.lt q e.symm).1; omega)
end

theorem index_any (base : Nat) (DA BA : Option Addr) (n m cap cap2 lo : Nat) (d b : List Nat) (w : World) (hd : d.length = n) (hb : b.length = m) (hn : n ≤ 100000) (hm : m ≤ 100000) (ho : w.ownsRow base 5 1 (.slice DA n cap) n (byteCells d)) (hs : Src w lo (.slice BA m cap2) b) :
    Calls Try.prog 15 #[.slice DA n cap, .slice BA m cap2] w fun e w' => (∃ r, e = .returned (.int .i64 r) ∧ Found d b r) ∧ ∃ q, w' = w.drewN q := by
  have hB := hs.bytes
  subst hd
  have hD := own_src ho
  rcases ho.2 with ⟨e, e0⟩ | ⟨q, c, cur, e, _, _, h3, h4, _⟩
  · injection e with e1 e2 e3
    subst e1 e3
    obtain rfl : d = [] := List.eq_nil_of_length_eq_zero e0
    exact index_nil BA m cap2 b w hb hm hB
  · injection e with e1 _ e3
    subst e1 e3
    exact index_row q BA d.length m cap cap2 d b w rfl hb hn hm h3 (by unfold maxLen at h4; omega) hD.bytes hB
end Go.Proofs.Ytdihfcmmnljchaa.Nm
