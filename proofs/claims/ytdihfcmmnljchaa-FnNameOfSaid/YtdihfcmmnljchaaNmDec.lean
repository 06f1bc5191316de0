/- UTF-16's numbers decoded, walked. -/
import Derived.Test.YtdihfcmmnljchaaNmUtf
namespace Go.Proofs.Ytdihfcmmnljchaa.Nm
open Go Go.RowKit

def runeCells (rs : List Nat) : List Value := rs.map fun r => Value.int .i32 (r : Nat)
def Halfs (w : World) (A : Option Addr) (l : List Nat) : Prop :=
  0 < l.length → ∃ g, A = some ⟨g, 0, none⟩ ∧ ∀ j x, l[j]? = some x → w.cell? ⟨g, j, none⟩ = some (.int .u16 (x : Nat))
theorem info21 : (Try.prog.info? 21).map (fun i => (i.zero, i.size, i.bytes)) = some (some (.int .i32 0), 1, 4) := by kernel_rfl

theorem utf16_at {rs : List Nat} {k r : Nat} (h : rs[k]? = some r) :
    (r < 65536 → (utf16 rs)[(utf16 (rs.take k)).length]? = some r ∧ (utf16 (rs.take (k + 1))).length = (utf16 (rs.take k)).length + 1) ∧
    (65536 ≤ r → (utf16 rs)[(utf16 (rs.take k)).length]? = some (55296 + (r - 65536) / 1024) ∧ (utf16 rs)[(utf16 (rs.take k)).length + 1]? = some (56320 + (r - 65536) % 1024) ∧ (utf16 (rs.take (k + 1))).length = (utf16 (rs.take k)).length + 2) := by
  obtain ⟨hl, hr⟩ := List.getElem?_eq_some_iff.1 h
  have e : utf16 rs = utf16 (rs.take k) ++ (u16 r ++ utf16 (rs.drop (k + 1))) := by
    conv => lhs; rw [← List.take_append_drop k rs]
    rw [List.drop_eq_getElem_cons hl, hr]
    simp [utf16]
  have e2 : (utf16 (rs.take (k + 1))).length = (utf16 (rs.take k)).length + (u16 r).length := by
    rw [List.take_succ_eq_append_getElem hl, hr]
    simp [utf16]
  refine ⟨fun h1 => ?_, fun h1 => ?_⟩
  · have hu : u16 r = [r] := by unfold u16; rw [if_neg (by omega)]
    rw [hu] at e e2
    refine ⟨?_, e2⟩
    rw [e, List.getElem?_append_right (Nat.le_refl _), Nat.sub_self]
    rfl
  · have hu : u16 r = [55296 + (r - 65536) / 1024, 56320 + (r - 65536) % 1024] := by unfold u16; rw [if_pos h1]
    rw [hu] at e e2
    refine ⟨?_, ?_, e2⟩
    · rw [e, List.getElem?_append_right (Nat.le_refl _), Nat.sub_self]
      rfl
    · rw [e, List.getElem?_append_right (by omega), Nat.add_sub_cancel_left]
      rfl

theorem dec_next {base k r : Nat} {rs : List Nat} {w wr w4 : World} {bv v' : Value} {cell : Obj} (hr : rs[k]? = some r) (hb : Below base w wr) (hbs : base ≤ wr.heap.size) (ho : wr.ownsRow base 21 1 bv k (runeCells (rs.take k)))
    (hown' : w4.ownsRow base 21 1 v' (k + 1) (runeCells (rs.take k) ++ [.int .i32 (r : Nat)])) (hg : (wr.alloc cell).grownBy w4 bv.ownBlock) :
    w4.ownsRow base 21 1 v' (k + 1) (runeCells (rs.take (k + 1))) ∧ Below base w w4 := by
  obtain ⟨hl, hr'⟩ := List.getElem?_eq_some_iff.1 hr
  refine ⟨?_, (hb.alloc hbs _).grown hg (by rw [World.size_alloc]; omega) (fun q hq => (ho.lt q hq).1)⟩
  rw [List.take_succ_eq_append_getElem hl, hr']
  simpa [runeCells] using hown'

set_option maxRecDepth 1000000 in
set_option maxHeartbeats 4000000 in
theorem decode_any (base n cap : Nat) (A : Option Addr) (rs : List Nat) (buf : Value) (w : World) (hn : (utf16 rs).length = n) (hn2 : n ≤ 100000) (hrl : rs.length ≤ 1000) (hrs : ∀ r ∈ rs, Val r) (h131 : ∀ r ∈ rs, r < 1114112) (h : Halfs w A (utf16 rs)) (hb : w.ownsRow base 21 1 buf 0 []) (hbase : base ≤ w.heap.size) (hA : ∀ g, A = some ⟨g, 0, none⟩ → g < base) :
    Calls Try.prog 31 #[.slice A n cap, buf] w fun e w' => ∃ v, e = .returned v ∧ w'.ownsRow base 21 1 v rs.length (runeCells rs) ∧ Below base w w' := by
  obtain ⟨i0, hi, hz0, hz1, hz2⟩ := info_parts info21
  have HN := Lib.hid hn
  have HR := Lib.hid hrs
  have HR2 := Lib.hid h131
  have H := Lib.hid h
  have HBU := Lib.hid hb
  have HAA := Lib.hid hA
  clear hn hrs h131 h hb hA
  go_enter Try.func31, Try.ntmps31
  go_wp2
  go_loopg [5, 1] (n + 1) (fun gk iv bv W => ∃ k : Nat, k ≤ rs.length ∧ gk = n + 1 - (utf16 (rs.take k)).length ∧ iv = .int .i64 (utf16 (rs.take k)).length ∧ W.ownsRow base 21 1 bv k (runeCells (rs.take k)) ∧ Below base w W)
  case atStart => exact ⟨0, Nat.zero_le _, by simp [utf16], rfl, by simpa [runeCells] using HBU.out, Below.refl _ _⟩
  case round =>
    obtain ⟨k, hk, hgk, rfl, hown, hbel⟩ := hrel
    have HO := Lib.hid hown
    have HB := Lib.hid hbel
    have HG := Lib.hid hgk
    have hsz := hbel.size
    clear hgk hown
    by_cases hlt : k < rs.length
    · obtain ⟨r, hr⟩ : ∃ r, rs[k]? = some r := ⟨_, List.getElem?_eq_getElem hlt⟩
      have hv := HR.out r (List.mem_of_getElem? hr)
      have hr131 := HR2.out r (List.mem_of_getElem? hr)
      have hat := utf16_at hr
      have hL : 0 < (utf16 rs).length := by
        by_cases h : r < 65536
        · have := (List.getElem?_eq_some_iff.1 (hat.1 h).1).1; omega
        · have := (List.getElem?_eq_some_iff.1 (hat.2 (by omega)).1).1; omega
      obtain ⟨g, rfl, hcells⟩ := H.out hL
      have hgb := HAA.out g rfl
      have hcell : ∀ j x, (utf16 rs)[j]? = some x → wr.cell? ⟨g, j, none⟩ = some (.int .u16 (x : Nat)) := fun j x hj => by
        rw [← hcells j x hj]; exact hbel.cell hgb
      obtain ⟨L, hLL⟩ : ∃ L, L = (utf16 (rs.take k)).length := ⟨_, rfl⟩
      rw [← hLL] at hat HG ⊢
      have HLL := Lib.hid hLL
      have HRR := Lib.hid hr
      by_cases h16 : r < 65536
      · obtain ⟨h1, h2⟩ := hat.1 h16
        have c0 := hcell L r h1
        have hLn : L < n := by have := (List.getElem?_eq_some_iff.1 h1).1; have := HN.out; omega
        have H2 := Lib.hid h2
        have hvv : (r : Int) < 55296 ∨ (57344 : Int) ≤ r := by unfold Val at hv; omega
        have f1 : (r : Int) < 65536 := by omega
        clear hat hcells hcell h1 h2 hr hv hLL hbel
        have d0 : decide ((L : Int) < n) = true := decide_eq_true (by omega)
        rcases hvv with hvv | hvv
        · have d1 : decide ((r : Int) < 55296) = true := decide_eq_true hvv
          clear hvv
          go_wp2_with (at_builtin; go_must (refine wpList_append_own _ rfl (.tmp 66) (.tmp 68) 81 rfl base 21 i0 _ 1 4 Try.underlying81 hi hz0 hz1 hz2 rfl (by decide) _ _ _ rfl (HO.out.alloc _) ⟨wr.heap.size, 0, none⟩ 1 1 [.int .i32 r] rfl rfl (cells_new wr [.int .i32 r] 21) (ints_oneCell .i32 [(r : Int)]) ?_ ?_ ?_ ?_))
          · unfold maxLen; omega
          · omega
          · rw [World.size_alloc]; omega
          intro v' w4 hown' hgrow _
          obtain ⟨g', cap', cur, rfl, _⟩ := Row.own_form hown' (by omega)
          have HD := Lib.hid (dec_next HRR.out HB.out (by omega) HO.out hown' hgrow)
          clear hown' hgrow c0 hsz
          go_wp2
          go_roundg (n + 1 - (L + 1))
          case measure => have := HG.out; omega
          case rel => exact ⟨k + 1, by omega, by rw [H2.out], by rw [H2.out]; go_num, HD.out.1, HD.out.2⟩
        · have d1 : decide ((r : Int) < 55296) = false := decide_eq_false (by omega)
          have d2 : decide ((57344 : Int) ≤ r) = true := decide_eq_true hvv
          clear hvv
          go_wp2_with (at_builtin; go_must (refine wpList_append_own _ rfl (.tmp 66) (.tmp 68) 81 rfl base 21 i0 _ 1 4 Try.underlying81 hi hz0 hz1 hz2 rfl (by decide) _ _ _ rfl (HO.out.alloc _) ⟨wr.heap.size, 0, none⟩ 1 1 [.int .i32 r] rfl rfl (cells_new wr [.int .i32 r] 21) (ints_oneCell .i32 [(r : Int)]) ?_ ?_ ?_ ?_))
          · unfold maxLen; omega
          · omega
          · rw [World.size_alloc]; omega
          intro v' w4 hown' hgrow _
          obtain ⟨g', cap', cur, rfl, _⟩ := Row.own_form hown' (by omega)
          have HD := Lib.hid (dec_next HRR.out HB.out (by omega) HO.out hown' hgrow)
          clear hown' hgrow c0 hsz
          go_wp2
          go_roundg (n + 1 - (L + 1))
          case measure => have := HG.out; omega
          case rel => exact ⟨k + 1, by omega, by rw [H2.out], by rw [H2.out]; go_num, HD.out.1, HD.out.2⟩
      · obtain ⟨h1, h2, h3⟩ := hat.2 (by omega)
        have c0 := hcell L _ h1
        have c1 := hcell (L + 1) _ h2
        have hLn : L + 1 < n := by have := (List.getElem?_eq_some_iff.1 h2).1; have := HN.out; omega
        have H3 := Lib.hid h3
        obtain ⟨a, ha⟩ : ∃ a, a = (r - 65536) / 1024 := ⟨_, rfl⟩
        obtain ⟨b, hb⟩ : ∃ b, b = (r - 65536) % 1024 := ⟨_, rfl⟩
        rw [← ha] at c0
        rw [← hb] at c1
        have ha2 : a < 1024 := by omega
        have hb2 : b < 1024 := by omega
        have hr2 : 65536 + a * 1024 + b = r := by omega
        obtain ⟨x, hx⟩ : ∃ x, x = 55296 + a := ⟨_, rfl⟩
        obtain ⟨y, hy⟩ : ∃ y, y = 56320 + b := ⟨_, rfl⟩
        rw [← hx] at c0
        rw [← hy] at c1
        have hC := Lib.hid (fun W => pair_any a b W ha2 hb2)
        rw [← hx, ← hy, hr2] at hC
        have d0 : decide ((L : Int) < n) = true := decide_eq_true (by omega)
        have d1 : decide ((x : Int) < 55296) = false := decide_eq_false (by omega)
        have d2 : decide ((57344 : Int) ≤ x) = false := decide_eq_false (by omega)
        have d3 : decide ((55296 : Int) ≤ x) = true := decide_eq_true (by omega)
        have d4 : decide ((x : Int) < 56320) = true := decide_eq_true (by omega)
        have d5 : decide ((L : Int) + 1 < n) = true := decide_eq_true (by omega)
        have d6 : decide ((56320 : Int) ≤ y) = true := decide_eq_true (by omega)
        have d7 : decide ((y : Int) < 57344) = true := decide_eq_true (by omega)
        have hx5 : x < 65536 := by omega
        have hy5 : y < 65536 := by omega
        have f2 : (x : Int) < 65536 := by omega
        have f3 : (y : Int) < 65536 := by omega
        have f4 : 0 ≤ (L : Int) + 1 := by omega
        have f5 : (L : Int) + 1 < n := by omega
        clear hat hcells hcell h1 h2 h3 hr hv hLL hbel ha hb ha2 hb2 hr2 hx hy
        go_wp2_with fail
        refine (hC.out _).mono ?_
        rintro e w3 ⟨rfl, rfl⟩
        clear c0 c1 hC d1 d2 d3 d4 d5 d6 d7
        go_wp2_with (at_builtin; go_must (refine wpList_append_own _ rfl (.tmp 66) (.tmp 68) 81 rfl base 21 i0 _ 1 4 Try.underlying81 hi hz0 hz1 hz2 rfl (by decide) _ _ _ rfl (HO.out.alloc _) ⟨wr.heap.size, 0, none⟩ 1 1 [.int .i32 r] rfl rfl (cells_new wr [.int .i32 r] 21) (ints_oneCell .i32 [(r : Int)]) ?_ ?_ ?_ ?_))
        · unfold maxLen; omega
        · omega
        · rw [World.size_alloc]; omega
        intro v' w4 hown' hgrow _
        obtain ⟨g', cap', cur, rfl, _⟩ := Row.own_form hown' (by omega)
        have HD := Lib.hid (dec_next HRR.out HB.out (by omega) HO.out hown' hgrow)
        clear hown' hgrow hsz
        go_wp2
        go_roundg (n + 1 - (L + 2))
        case measure => have := HG.out; omega
        case rel => exact ⟨k + 1, by omega, by rw [H3.out], by rw [H3.out]; go_num, HD.out.1, HD.out.2⟩
    · have hkk : k = rs.length := by omega
      have HKK := Lib.hid hkk
      have e1 : rs.take k = rs := List.take_of_length_le (by omega)
      have e2 : (utf16 (rs.take k)).length = n := by rw [e1, HN.out]
      rw [e2]
      rw [e1] at HO
      clear e1 e2 hkk
      go_wp2
      go_ret
      exact ⟨_, rfl, by have := HO.out; rw [HKK.out] at this; exact this, HB.out⟩
end Go.Proofs.Ytdihfcmmnljchaa.Nm
