/- The records that the law makes of numbers and texts, walked. -/
import Derived.Test.YtdihfcmmnljchaaNmRef
import Derived.Lib.OthersKept
namespace Go.Proofs.Ytdihfcmmnljchaa.Nm
open Go Go.RowKit

/-- A slice of numbers of 16 bits that came in. -/
def Halves (w : World) (A : Option Addr) (n : Nat) : Prop :=
  0 < n → ∃ b off, A = some ⟨b, off, none⟩ ∧ ∀ j, j < n → ∃ x : Nat, x < 65536 ∧ w.cell? ⟨b, off + j, none⟩ = some (.int .u16 (x : Nat))

theorem info35 : (Try.prog.info? 35).map (fun i => (i.zero, i.size, i.bytes)) = some (some (.agg #[.int .i64 0, .bool false, .string ⟨#[]⟩]), 3, 32) := by kernel_rfl

/-- In the walk over a text: the record's variable, the iterator's place. -/
structure Walking (wo W : World) (id : Nat) (mac : Bool) (rs : List Nat) (t : ByteArray) (pos : Nat) : Prop where
  rec_ : W.heap[wo.heap.size]? = some (.cells #[.int .i64 (id : Nat), .bool mac, .string (str rs)] 35 (0, 0))
  iter : W.heap[wo.heap.size + 1]? = some (.stringIter t pos)
  size : wo.heap.size + 2 ≤ W.heap.size
  below : Below wo.heap.size wo W

theorem walk_start (wo : World) (id : Nat) (mac : Bool) (t : ByteArray) : Walking wo ((wo.alloc (.cells #[.int .i64 (id : Nat), .bool mac, .string ⟨#[]⟩] 35)).drew.drew.iter t 0) id mac [] t 0 := by
  have hs : ((wo.alloc (.cells #[.int .i64 (id : Nat), .bool mac, .string ⟨#[]⟩] 35)).drew.drew).heap.size = wo.heap.size + 1 := by simp
  refine ⟨?_, ?_, ?_, ?_⟩
  · show (((wo.alloc (.cells #[.int .i64 (id : Nat), .bool mac, .string ⟨#[]⟩] 35)).drew.drew).alloc (.stringIter t 0)).heap[wo.heap.size]? = _
    rw [Below.heap_alloc _ _ _ (by omega)]
    exact heap_alloc_new _ _
  · have := World.iter_heap ((wo.alloc (.cells #[.int .i64 (id : Nat), .bool mac, .string ⟨#[]⟩] 35)).drew.drew) t 0
    rwa [hs] at this
  · show wo.heap.size + 2 ≤ (((wo.alloc (.cells #[.int .i64 (id : Nat), .bool mac, .string ⟨#[]⟩] 35)).drew.drew).alloc (.stringIter t 0)).heap.size
    rw [World.size_alloc, hs]
    omega
  · exact (((Below.refl wo.heap.size wo).alloc (Nat.le_refl _) _).drew.drew).alloc (by omega) _

theorem cell_in {w : World} {g j : Nat} {cur : Array Value} {t : TypeId} (h : w.heap[g]? = some (.cells cur t (0, 0))) : w.cell? ⟨g, j, none⟩ = cur[j]? := by
  simp [World.cell?, h]

theorem Walking.next {wo W : World} {id : Nat} {mac : Bool} {rs : List Nat} {t : ByteArray} {pos : Nat} (h : Walking wo W id mac rs t pos) (pos' : Nat) : Walking wo (W.iterAt (wo.heap.size + 1) t pos') id mac rs t pos' :=
  ⟨by rw [Lib.iterAt_other _ _ _ _ _ (by omega)]; exact h.rec_, Lib.iterAt_heap _ _ _ _ _ h.iter, by rw [Lib.iterAt_size]; exact h.size, Lib.below_iterAt h.below (by omega) _ _⟩
theorem set_row {w : World} {g j : Nat} {cur : Array Value} {t : TypeId} {x : Value} (h : w.heap[g]? = some (.cells cur t (0, 0))) : (w.setCell ⟨g, j, none⟩ x).heap[g]? = some (.cells (cur.setIfInBounds j x) t (0, 0)) := by
  unfold World.setCell
  have hl : g < w.heap.size := by
    cases hh : w.heap[g]? with
    | none => rw [hh] at h; simp at h
    | some o => exact (Array.getElem?_eq_some_iff.mp hh).1
  have h' : w.heap[g] = .cells cur t (0, 0) := by rw [Array.getElem?_eq_getElem hl] at h; exact Option.some.inj h
  simp [Array.getElem_modify, h', hl]

theorem Walking.put {wo W : World} {id : Nat} {mac : Bool} {rs : List Nat} {t : ByteArray} {pos : Nat} (h : Walking wo W id mac rs t pos) (r : Nat) : Walking wo (W.setCell ⟨wo.heap.size, 2, none⟩ (.string (str (rs ++ [r])))) id mac (rs ++ [r]) t pos := by
  refine ⟨?_, ?_, ?_, h.below.setCell (Nat.le_refl _) _⟩
  · have := set_row (g := wo.heap.size) (j := 2) (x := .string (str (rs ++ [r]))) h.rec_
    simpa using this
  · rw [Below.heap_setCell _ _ _ _ (by show wo.heap.size + 1 ≠ wo.heap.size; omega)]; exact h.iter
  · rw [World.size_setCell]; exact h.size
theorem Walking.put' {wo W : World} {id : Nat} {mac : Bool} {rs : List Nat} {t : ByteArray} {pos : Nat} (h : Walking wo W id mac rs t pos) {r : Nat} (hv : Val r) : Walking wo (W.setCell ⟨wo.heap.size, 2, none⟩ (.string (str rs ++ Utf8.encode (r : Int)))) id mac (rs ++ [r]) t pos := by
  rw [str_snoc rs r hv]
  exact h.put r
theorem Walking.put'' {wo W : World} {id : Nat} {mac : Bool} {rs : List Nat} {t tx : ByteArray} {pos : Nat} (h : Walking wo W id mac rs t pos) (ht : tx = str rs) {r : Nat} (hv : Val r) : Walking wo (W.setCell ⟨wo.heap.size, 2, none⟩ (.string (tx ++ Utf8.encode (r : Int)))) id mac (rs ++ [r]) t pos := by
  subst ht
  exact h.put' hv
theorem all_snoc {mac : Bool} {rs : List Nat} {c : Nat} (h : ∀ r ∈ rs, Allowed mac r) (hc : Allowed mac c) : ∀ r ∈ rs ++ [c], Allowed mac r := by
  intro r hr
  rcases List.mem_append.mp hr with h' | h'
  · exact h r h'
  · rw [List.mem_singleton.mp h']; exact hc

theorem Walking.cells {wo W : World} {id : Nat} {mac : Bool} {rs : List Nat} {t : ByteArray} {pos : Nat} (h : Walking wo W id mac rs t pos) :
    W.cell? ⟨wo.heap.size, 0, none⟩ = some (.int .i64 (id : Nat)) ∧ W.cell? ⟨wo.heap.size, 1, none⟩ = some (.bool mac) ∧ W.cell? ⟨wo.heap.size, 2, none⟩ = some (.string (str rs)) ∧ W.frozen? ⟨wo.heap.size, 2, none⟩ = false :=
  ⟨cell_in h.rec_, cell_in h.rec_, cell_in h.rec_, by simp [World.frozen?, h.rec_]⟩

theorem own_block {w w' : World} {base n : Nat} {e : TypeId} {size : Nat} {v : Value} {xs : List Value} (h : w.ownsRow base e size v n xs) (hk : ∀ k, v.ownBlock = some k → w'.heap[k]? = w.heap[k]?) : w'.ownsRow base e size v n xs := by
  obtain ⟨hl, h | ⟨g, cap, cur, hv, hb, hg, hrest⟩⟩ := h
  · exact ⟨hl, .inl h⟩
  · exact ⟨hl, .inr ⟨g, cap, cur, hv, hb, (hk g (by rw [hv]; rfl)).trans hg, hrest⟩⟩
theorem one_rec (id : Nat) (mac : Bool) (t : ByteArray) : ∀ u ∈ [Value.int .i64 (id : Nat), .bool mac, .string t], u.oneCell' = true := by simp [Value.oneCell']
theorem cells_new (w : World) (l : List Value) (t : TypeId) : ∀ j u, l[j]? = some u → (w.alloc (.cells l.toArray t)).cell? ((⟨w.heap.size, 0, none⟩ : Addr).add j) = some u := by
  intro j u hj
  rw [Addr.add_lit, Nat.zero_add, World.cell?_alloc_at _ _ _ _ rfl]
  simpa using hj
theorem rec_new (w : World) (id : Nat) (mac : Bool) (t : ByteArray) : ∀ (j : Nat) (u : Value), [Value.int .i64 (id : Nat), .bool mac, .string t][j]? = some u → (w.alloc (.cells #[.int .i64 (id : Nat), .bool mac, .string t] 35)).cell? ((⟨w.heap.size, 0, none⟩ : Addr).add j) = some u :=
  fun j u hj => cells_new w [.int .i64 (id : Nat), .bool mac, .string t] 35 j u hj
theorem recCells_snoc (l : List Rec) (x : Rec) : recCells (l ++ [x]) = recCells l ++ x.cells := by simp [recCells]
theorem rec_next {w wo wr w4 : World} {k id : Nat} {mac : Bool} {rs : List Nat} {tx t : ByteArray} {pos : Nat} {v v' : Value} {l : List Rec}
    (ho : wo.ownsRow w.heap.size 35 3 v k (recCells l)) (_h3 : wr.ownsRow w.heap.size 35 3 v k (recCells l)) (hb : Below w.heap.size w wo) (hs : w.heap.size ≤ wo.heap.size) (hw : Walking wo wr id mac rs t pos)
    (hg : (wr.alloc (.cells #[.int .i64 (id : Nat), .bool mac, .string tx] 35)).grownBy w4 v.ownBlock) (htx : tx = str rs)
    (ho' : w4.ownsRow w.heap.size 35 3 v' (k + 1) (recCells l ++ [.int .i64 (id : Nat), .bool mac, .string tx])) :
    w4.ownsRow w.heap.size 35 3 v' (k + 1) (recCells (l ++ [⟨id, mac, rs⟩])) ∧ Below w.heap.size w w4 := by
  subst htx
  have hs2 := hw.size
  refine ⟨by rw [recCells_snoc]; exact ho', ?_⟩
  exact ((hb.trans (hw.below.mono hs)).alloc (by omega) _).grown hg (by rw [World.size_alloc]; omega) (fun q hq => (ho.lt q hq).1)
theorem rec_ok {l : List Rec} {id : Nat} {mac : Bool} {rs : List Nat} (h : ∀ x ∈ l, Rec.Ok x) (hid : id < 8) (hf : rs.length ≤ 300) (ha : ∀ r ∈ rs, Allowed mac r) : ∀ x ∈ l ++ [⟨id, mac, rs⟩], Rec.Ok x := by
  intro x hx
  rcases List.mem_append.mp hx with h' | h'
  · exact h x h'
  · rw [List.mem_singleton.mp h']; exact ⟨hid, hf, ha⟩

def Made (w : World) (e : Ending) (w' : World) : Prop :=
  ∃ l v, e = .returned v ∧ l.length ≤ 10 ∧ (∀ x ∈ l, Rec.Ok x) ∧ w'.ownsRow w.heap.size 35 3 v l.length (recCells l) ∧ Below w.heap.size w w'

set_option maxRecDepth 100000 in
set_option maxHeartbeats 4000000 in
theorem some_any (n m : Nat) (A A2 : Option Addr) (cap cap2 : Nat) (w : World) (hn : n ≤ 9223372036854775807) (hm : m ≤ 9223372036854775807) (h1 : Halves w A n) (h2 : Texts w A2 m) :
    Calls Try.prog 5 #[.slice A n cap, .slice A2 m cap2] w (Made w) := by
  have H1 := Lib.hid h1
  have H2 := Lib.hid h2
  clear h1 h2
  obtain ⟨i0, hi, hz0, hz1, hz2⟩ := info_parts info35
  go_enter Try.func5, Try.ntmps5
  go_wp2
  go_loopg [5, 4] (n) (fun gk iv lv W => ∃ (k : Nat) (l : List Rec), k ≤ n ∧ k ≤ 10 ∧ gk = n - k ∧ iv = .int .i64 k ∧ l.length = k ∧ (∀ x ∈ l, Rec.Ok x) ∧ W.ownsRow w.heap.size 35 3 lv k (recCells l) ∧ Below w.heap.size w W)
  case atStart => exact ⟨0, [], Nat.zero_le _, Nat.zero_le _, rfl, rfl, rfl, by simp, World.ownsRow_nil _ _ _ _, Below.refl _ _⟩
  case round =>
    obtain ⟨k, l, hk, hk10, hgk, rfl, hl, hok, hown, hbel⟩ := hrel
    have HK := Lib.hid hgk
    have HL := Lib.hid hl
    have HOK := Lib.hid hok
    have HO := Lib.hid hown
    have HB := Lib.hid hbel
    have hsz := hbel.size
    clear hgk hl hok hown
    by_cases hlt : k < n ∧ k < m ∧ k < 10
    · obtain ⟨hlt, hltm, hlt10⟩ := hlt
      have hlt10' : (k : Int) < 10 := by omega
      obtain ⟨b, off, rfl, hcells⟩ := H1.out (by omega)
      obtain ⟨x, hx16, c0⟩ := hcells k hlt
      have d0 : wr.cell? ⟨b, off + k, none⟩ = some (.int .u16 (x : Nat)) := by
        rw [← c0]; exact hbel.cell (World.block_lt_of_cell? w _ c0)
      have hbs : b < wr.heap.size := World.block_lt_of_cell? wr _ d0
      obtain ⟨b2, off2, rfl, hcells2⟩ := H2.out (by omega)
      obtain ⟨s, hs, c1⟩ := hcells2 k hltm
      have d1 : wr.cell? ⟨b2, off2 + k, none⟩ = some (.string s) := by
        rw [← c1]; exact hbel.cell (World.block_lt_of_cell? w _ c1)
      have hbs2 : b2 < wr.heap.size := World.block_lt_of_cell? wr _ d1
      have hs2 : s.size ≤ 9223372036854775807 := hs
      clear hcells c0 hcells2 c1 hs hbel
      obtain ⟨wo, rfl⟩ : ∃ wo : World, wo = wr := ⟨_, rfl⟩
      obtain ⟨id, hid⟩ : ∃ id : Nat, (x : Int) % 8 = id := ⟨x % 8, by omega⟩
      have hid8 : id < 8 := by omega
      obtain ⟨mac, hmac⟩ : ∃ mac, ((x : Int) / 8 % 3 == 0) = mac := ⟨_, rfl⟩
      go_wp2
      go_region
      go_upto_region 5 with fail
      go_cut [50] (fun it W => ∃ t : ByteArray, t.size ≤ 300 ∧ it = .pointer (some ⟨wo.heap.size + 1, 0, none⟩) ∧ Walking wo W id mac [] t 0)
      case first =>
        go_region
        go_wp2_with fail
        all_goals go_meet
        all_goals first
          | exact ⟨s.extract 0 300, by rw [ByteArray.size_extract]; omega, rfl, walk_start _ _ _ _⟩
          | exact ⟨s, by omega, rfl, walk_start _ _ _ _⟩
      case rest =>
        obtain ⟨t, ht, rfl, hw⟩ := hcut
        obtain ⟨wb, rfl⟩ : ∃ wb : World, wb = wc := ⟨_, rfl⟩
        clear d0 d1 hbs hbs2 hid hmac hx16 hs2
        have HW := Lib.hid hw
        clear hw
        go_wp2_with fail
        go_loopg [8] (t.size) (fun gk cv W => ∃ (pos : Nat) (rs : List Nat), gk = t.size - pos ∧ rs.length + gk ≤ 300 ∧ (∀ r ∈ rs, Allowed mac r) ∧ Walking wo W id mac rs t pos)
        case atStart => exact ⟨0, [], by omega, by simpa using ht, by simp, HW.out⟩
        case round =>
          obtain ⟨pos, rs, hgp, hfew, hall, hwk⟩ := hrel
          have HG := Lib.hid hgp
          have HA := Lib.hid hall
          have HWK := Lib.hid hwk
          have hiter := hwk.iter
          clear hgp hall hwk
          by_cases hpos : pos < t.size
          · have hnx := fun ty => Lib.run_next_any_at (P := Try.prog) wr (wo.heap.size + 1) t pos ty hiter hpos
            have hwd := Lib.width_pos t pos
            have hcm := Lib.rune_le t pos
            generalize (Utf8.decode t pos).1 = c at hnx hcm
            generalize (Utf8.decode t pos).2 = wd at hnx hwd
            have HW2 := HWK.out.next (pos + wd)
            obtain ⟨c0, c1, c2, cf⟩ := HW2.cells
            obtain ⟨W2, hW2⟩ : ∃ W2, W2 = wr.iterAt (wo.heap.size + 1) t (pos + wd) := ⟨_, rfl⟩
            rw [← hW2] at hnx HW2 c0 c1 c2 cf
            obtain ⟨tx, htx⟩ : ∃ tx, tx = str rs := ⟨_, rfl⟩
            rw [← htx] at c2
            have HTX := Lib.hid htx
            have HWN := Lib.hid HW2
            clear hiter hW2 HW2 htx
            have hz1' : (tx.size : Int) ≤ 8388608 := by
              have e := utf8_le rs
              rw [HTX.out, size_str]
              omega
            have hz2' : ((Utf8.encode (c : Int)).size : Int) ≤ 8388608 := by have := encode_size_le (c : Int); omega
            have hcases : (c : Int) < 32 ∨ (32 ≤ (c : Int) ∧ (c : Int) < 127) ∨ (127 ≤ (c : Int) ∧ (c : Int) < 160) ∨ (160 ≤ (c : Int) ∧ (c : Int) < 55296) ∨ (55296 ≤ (c : Int) ∧ (c : Int) < 65536) ∨ (65536 ≤ (c : Int) ∧ (c : Int) < 131072) ∨ 131072 ≤ (c : Int) := by omega
            rcases hcases with h1 | ⟨h1, h2⟩ | ⟨h1, h2⟩ | ⟨h1, h2⟩ | ⟨h1, h2⟩ | ⟨h1, h2⟩ | h1
            · have f0 : ¬ (32 : Int) ≤ c := by omega
              have f1 : (c : Int) < 127 := by omega
              have f2 : ¬ (160 : Int) ≤ c := by omega
              have f3 : (c : Int) < 55296 := by omega
              have f4 : ¬ (65536 : Int) ≤ c := by omega
              have f5 : (c : Int) < 131072 := by omega
              clear h1
              cases mac
              · go_wp2
                go_roundg (t.size - (pos + wd))
                case measure => have := HG.out; omega
                case rel => exact ⟨pos + wd, rs, rfl, by have := HG.out; omega, HA.out, HWN.out⟩
              · go_wp2
                go_roundg (t.size - (pos + wd))
                case measure => have := HG.out; omega
                case rel => exact ⟨pos + wd, rs, rfl, by have := HG.out; omega, HA.out, HWN.out⟩
            · have f0 : (32 : Int) ≤ c := by omega
              have f1 : (c : Int) < 127 := by omega
              have f2 : ¬ (160 : Int) ≤ c := by omega
              have f3 : (c : Int) < 55296 := by omega
              have f4 : ¬ (65536 : Int) ≤ c := by omega
              have f5 : (c : Int) < 131072 := by omega
              clear h1 h2
              cases mac
              · go_wp2
                go_roundg (t.size - (pos + wd))
                case measure => have := HG.out; omega
                case rel => exact ⟨pos + wd, rs ++ [c], rfl, by have := HG.out; rw [List.length_append, List.length_singleton]; omega, all_snoc HA.out (Or.inl ⟨by omega, by omega⟩), HWN.out.put'' HTX.out (by unfold Val; omega)⟩
              · go_wp2
                go_roundg (t.size - (pos + wd))
                case measure => have := HG.out; omega
                case rel => exact ⟨pos + wd, rs ++ [c], rfl, by have := HG.out; rw [List.length_append, List.length_singleton]; omega, all_snoc HA.out (Or.inl ⟨by omega, by omega⟩), HWN.out.put'' HTX.out (by unfold Val; omega)⟩
            · have f0 : decide ((32 : Int) ≤ c) = true := decide_eq_true (by omega)
              have f1 : decide ((c : Int) < 127) = false := decide_eq_false (by omega)
              have f2 : decide ((160 : Int) ≤ c) = false := decide_eq_false (by omega)
              have f3 : decide ((c : Int) < 55296) = true := decide_eq_true (by omega)
              have f4 : decide ((65536 : Int) ≤ c) = false := decide_eq_false (by omega)
              have f5 : decide ((c : Int) < 131072) = true := decide_eq_true (by omega)
              clear h1 h2
              cases mac
              · go_wp2
                go_roundg (t.size - (pos + wd))
                case measure => have := HG.out; omega
                case rel => exact ⟨pos + wd, rs, rfl, by have := HG.out; omega, HA.out, HWN.out⟩
              · go_wp2
                go_roundg (t.size - (pos + wd))
                case measure => have := HG.out; omega
                case rel => exact ⟨pos + wd, rs, rfl, by have := HG.out; omega, HA.out, HWN.out⟩
            · have f0 : (32 : Int) ≤ c := by omega
              have f1 : ¬ (c : Int) < 127 := by omega
              have f2 : (160 : Int) ≤ c := by omega
              have f3 : (c : Int) < 55296 := by omega
              have f4 : ¬ (65536 : Int) ≤ c := by omega
              have f5 : (c : Int) < 131072 := by omega
              clear h1 h2
              cases mac
              · go_wp2
                go_roundg (t.size - (pos + wd))
                case measure => have := HG.out; omega
                case rel => exact ⟨pos + wd, rs ++ [c], rfl, by have := HG.out; rw [List.length_append, List.length_singleton]; omega, all_snoc HA.out (Or.inr (Or.inl ⟨rfl, by omega, by omega⟩)), HWN.out.put'' HTX.out (by unfold Val; omega)⟩
              · go_wp2
                go_roundg (t.size - (pos + wd))
                case measure => have := HG.out; omega
                case rel => exact ⟨pos + wd, rs, rfl, by have := HG.out; omega, HA.out, HWN.out⟩
            · have f0 : decide ((32 : Int) ≤ c) = true := decide_eq_true (by omega)
              have f1 : decide ((c : Int) < 127) = false := decide_eq_false (by omega)
              have f2 : decide ((160 : Int) ≤ c) = true := decide_eq_true (by omega)
              have f3 : decide ((c : Int) < 55296) = false := decide_eq_false (by omega)
              have f4 : decide ((65536 : Int) ≤ c) = false := decide_eq_false (by omega)
              have f5 : decide ((c : Int) < 131072) = true := decide_eq_true (by omega)
              clear h1 h2
              cases mac
              · go_wp2
                go_roundg (t.size - (pos + wd))
                case measure => have := HG.out; omega
                case rel => exact ⟨pos + wd, rs, rfl, by have := HG.out; omega, HA.out, HWN.out⟩
              · go_wp2
                go_roundg (t.size - (pos + wd))
                case measure => have := HG.out; omega
                case rel => exact ⟨pos + wd, rs, rfl, by have := HG.out; omega, HA.out, HWN.out⟩
            · have f0 : (32 : Int) ≤ c := by omega
              have f1 : ¬ (c : Int) < 127 := by omega
              have f2 : (160 : Int) ≤ c := by omega
              have f3 : ¬ (c : Int) < 55296 := by omega
              have f4 : (65536 : Int) ≤ c := by omega
              have f5 : (c : Int) < 131072 := by omega
              clear h1 h2
              cases mac
              · go_wp2
                go_roundg (t.size - (pos + wd))
                case measure => have := HG.out; omega
                case rel => exact ⟨pos + wd, rs ++ [c], rfl, by have := HG.out; rw [List.length_append, List.length_singleton]; omega, all_snoc HA.out (Or.inr (Or.inr ⟨rfl, by omega, by omega⟩)), HWN.out.put'' HTX.out (by unfold Val; omega)⟩
              · go_wp2
                go_roundg (t.size - (pos + wd))
                case measure => have := HG.out; omega
                case rel => exact ⟨pos + wd, rs, rfl, by have := HG.out; omega, HA.out, HWN.out⟩
            · have f0 : decide ((32 : Int) ≤ c) = true := decide_eq_true (by omega)
              have f1 : decide ((c : Int) < 127) = false := decide_eq_false (by omega)
              have f2 : decide ((160 : Int) ≤ c) = true := decide_eq_true (by omega)
              have f3 : decide ((c : Int) < 55296) = false := decide_eq_false (by omega)
              have f4 : decide ((65536 : Int) ≤ c) = true := decide_eq_true (by omega)
              have f5 : decide ((c : Int) < 131072) = false := decide_eq_false (by omega)
              clear h1
              cases mac
              · go_wp2
                go_roundg (t.size - (pos + wd))
                case measure => have := HG.out; omega
                case rel => exact ⟨pos + wd, rs, rfl, by have := HG.out; omega, HA.out, HWN.out⟩
              · go_wp2
                go_roundg (t.size - (pos + wd))
                case measure => have := HG.out; omega
                case rel => exact ⟨pos + wd, rs, rfl, by have := HG.out; omega, HA.out, HWN.out⟩
          · have hnx := fun ty => Lib.run_next_end_at (P := Try.prog) wr (wo.heap.size + 1) t pos ty hiter hpos
            have hw3 := HWK.out
            obtain ⟨c0, c1, c2, _⟩ := hw3.cells
            obtain ⟨tx, htx⟩ : ∃ tx, tx = str rs := ⟨_, rfl⟩
            rw [← htx] at c2
            have hszw := hw3.size
            have hown3 := own_block HO.out (fun q hq => hw3.below.block q (HO.out.lt q hq).2)
            have HTX := Lib.hid htx
            clear hiter htx hw3
            go_wp2_with (at_builtin; go_must (refine wpList_append_own _ rfl (.tmp 92) (.tmp 94) 26 rfl (w.heap.size) 35 i0 _ 3 32 Try.underlying26 hi hz0 hz1 hz2 rfl (by decide) _ _ _ rfl (hown3.alloc _) ⟨wr.heap.size, 0, none⟩ 1 1 [.int .i64 id, .bool mac, .string tx] rfl rfl ?_ (one_rec _ _ _) ?_ ?_ ?_ ?_))
            · exact rec_new wr id mac tx
            · unfold maxLen; omega
            · omega
            · rw [World.size_alloc]; omega
            intro v' w4 hown' hgrow _
            have R := rec_next (w := w) (rs := rs) HO.out hown3 HB.out hsz HWK.out hgrow HTX.out hown'
            have HR := Lib.hid R
            clear R hown' hgrow hown3
            go_wp2
            go_roundg (n - (k + 1))
            case measure => have := HK.out; omega
            case rel => exact ⟨k + 1, l ++ [⟨id, mac, rs⟩], by omega, by omega, rfl, by go_num, by have := HL.out; simp; omega, rec_ok HOK.out hid8 (by have := HG.out; omega) HA.out, HR.out.1, HR.out.2⟩
    · have hcases : ¬ k < n ∨ (k < n ∧ ¬ k < m) ∨ (k < n ∧ k < m ∧ k = 10) := by omega
      clear hlt hbel
      have hfin : l.length = k := HL.out
      rcases hcases with h | ⟨h, h'⟩ | ⟨h, h', rfl⟩
      all_goals
        go_wp2
        go_ret
        exact ⟨l, _, rfl, by omega, HOK.out, by rw [HL.out]; exact HO.out, HB.out⟩
end Go.Proofs.Ytdihfcmmnljchaa.Nm
