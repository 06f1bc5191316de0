/- The value of a pair found among the records, walked. -/
import Derived.Test.YtkfgmjcdaggjcaaKpKern
namespace Go.Proofs.Ytkfgmjcdaggjcaa.Kp
open Go Go.RowKit

theorem ofInt32 (a : Nat) (ha : a < 4294967296) : (BitVec.ofInt 32 (a : Int)).toNat = a := by
  rw [BitVec.ofInt_natCast, BitVec.toNat_ofNat]; exact Nat.mod_eq_of_lt (by omega)
theorem or_key (a b : Nat) (ha : a < 40) (hb : b < 40) : bits .or .u32 ((a : Int) * 65536) (b : Int) = ((a * 65536 + b : Nat) : Int) := by
  have e : ((a : Int) * 65536) = ((a * 65536 : Nat) : Int) := by omega
  rw [e]
  show IntKind.u32.wrap ((BitVec.ofInt 32 ((a * 65536 : Nat) : Int) ||| BitVec.ofInt 32 (b : Int)).toNat : Int) = _
  rw [BitVec.toNat_or, ofInt32 _ (by omega), ofInt32 b (by omega)]
  have h : a * 65536 ||| b = a * 65536 + b := by
    have := Nat.two_pow_add_eq_or_of_lt (i := 16) (b := b) (by omega) a
    rw [show a * 65536 = 2 ^ 16 * a by omega, ← this]
  rw [h]
  simp [IntKind.wrap, IntKind.bits, IntKind.signed]
  omega

set_option maxRecDepth 100000 in
theorem key_any (t : Tri) (ht : t.Ok) (w : World) :
    Calls Try.prog 78 #[.agg #[.int .u16 (t.a : Nat), .int .u16 (t.b : Nat), .int .i16 t.v]] w fun e w' => e = .returned (.int .u32 (t.a * 65536 + t.b : Nat)) ∧ Below w.heap.size w w' := by
  have h1 := ht.a
  have h2 := ht.b
  have hb : Below w.heap.size w (w.alloc (.cells #[.int .u16 (t.a : Nat), .int .u16 (t.b : Nat), .int .i16 t.v] 137)) := (Below.refl _ _).alloc (Nat.le_refl _) _
  have HB := Lib.hid hb
  have HK := or_key t.a t.b h1 h2
  generalize t.a = a at *
  generalize t.b = b at *
  generalize t.v = v at *
  obtain ⟨k, hk⟩ : ∃ k, k = a * 65536 + b := ⟨_, rfl⟩
  rw [← hk] at HK ⊢
  have hk2 : k < 4294967296 := by omega
  clear ht hb hk
  go_enter Try.func78, Try.ntmps78
  go_wp2
  go_ret
  exact ⟨rfl, HB.out⟩

/-- What the pairs say of two glyphs. -/
def Answer (l : List Tri) (a b : Nat) (v : Int) : Prop := (∃ t ∈ l, t.a = a ∧ t.b = b ∧ v = t.v) ∨ (v = 0 ∧ ∀ t ∈ l, ¬ (t.a = a ∧ t.b = b))
def pk (t : Tri) : Nat := t.a * 65536 + t.b

theorem pk_lt {x y : Tri} (hx : x.Ok) (hy : y.Ok) (h : x.key < y.key) : pk x < pk y := by
  have := hx.a; have := hx.b; have := hy.a; have := hy.b
  unfold Tri.key at h
  unfold pk
  omega
theorem str_pk {l : List Tri} (h : Str l) (hok : ∀ x ∈ l, Tri.Ok x) {i j : Nat} {x y : Tri} (hx : l[i]? = some x) (hy : l[j]? = some y) (hij : i < j) : pk x < pk y := by
  obtain ⟨h1, rfl⟩ := List.getElem?_eq_some_iff.1 hx
  obtain ⟨h2, rfl⟩ := List.getElem?_eq_some_iff.1 hy
  exact pk_lt (hok _ (List.getElem_mem h1)) (hok _ (List.getElem_mem h2)) (List.pairwise_iff_getElem.1 h i j h1 h2 hij)

set_option maxRecDepth 1000000 in
set_option maxHeartbeats 4000000 in
theorem find_any (G n a b : Nat) (l : List Tri) (w : World) (hl : l.length = n) (hn60 : n ≤ 60) (ha : a < 40) (hb : b < 40) (hok : ∀ x ∈ l, Tri.Ok x) (hs : Str l) (hG : G < w.heap.size) (hp : PairsAt w G l) :
    Calls Try.prog 77 #[.slice (some ⟨G, 0, none⟩) n n, .int .u32 a, .int .u32 b] w fun e w' => (∃ v, e = .returned (.int .i16 v) ∧ Answer l a b v) ∧ Below w.heap.size w w' := by
  have HL := Lib.hid hl
  have HOK := Lib.hid hok
  have HS := Lib.hid hs
  have HP := Lib.hid hp
  have HK := or_key a b ha hb
  obtain ⟨k, hk⟩ : ∃ k, k = a * 65536 + b := ⟨_, rfl⟩
  rw [← hk] at HK
  have HKK := Lib.hid hk
  have hk2 : k < 4294967296 := by omega
  clear hl hok hs hp hk
  go_enter Try.func77, Try.ntmps77
  go_wp2_with fail
  go_loopg [8, 9] (n) (fun gk lv hv W => ∃ (lo hi : Nat), gk = hi - lo ∧ lv = .int .i64 lo ∧ hv = .int .i64 hi ∧ lo ≤ hi ∧ hi ≤ n ∧ (∀ j t, j < lo → l[j]? = some t → pk t < k) ∧ (∀ j t, hi ≤ j → l[j]? = some t → k < pk t) ∧ Below w.heap.size w W)
  case atStart => exact ⟨0, n, by omega, rfl, rfl, by omega, Nat.le_refl _, fun j t h => absurd h (by omega), fun j t h ht => by have := (List.getElem?_eq_some_iff.1 ht).1; have := HL.out; omega, Below.refl _ _⟩
  case round =>
    obtain ⟨lo, hi, hgk, rfl, rfl, hlh, hhn, h1, h2, hbel⟩ := hrel
    have HGK := Lib.hid hgk
    have H1 := Lib.hid h1
    have H2 := Lib.hid h2
    have HB := Lib.hid hbel
    clear hgk h1 h2
    by_cases hlt : lo < hi
    · obtain ⟨d, hd⟩ : ∃ d, d = hi - lo := ⟨_, rfl⟩
      obtain ⟨d2, hd2⟩ : ∃ d2, d2 = d / 2 := ⟨_, rfl⟩
      obtain ⟨m, hm⟩ : ∃ m, m = lo + d2 := ⟨_, rfl⟩
      have k0 : (hi : Int) - lo = (d : Int) := by omega
      have k1 : IntKind.i64.wrap (d : Int) = d := IntWalk.i64_in _ (by omega)
      have k2 : (d : Int) / 2 = (d2 : Int) := by omega
      have k3 : (d : Int).tdiv 2 = (d2 : Int) := by rw [Int.tdiv_eq_ediv_of_nonneg (by omega)]; exact k2
      have k4 : (lo : Int) + d2 = (m : Int) := by omega
      have k5 : IntKind.i64.wrap (m : Int) = m := IntWalk.i64_in _ (by omega)
      have k6 : IntKind.i64.wrap (d2 : Int) = d2 := IntWalk.i64_in _ (by omega)
      have hmn : m < n := by omega
      have hmn2 : (m : Int) < n := by omega
      have hlm : lo ≤ m := by omega
      have hmh : m < hi := by omega
      obtain ⟨t, ht⟩ : ∃ t, l[m]? = some t := ⟨_, List.getElem?_eq_getElem (by have := HL.out; omega)⟩
      have hp := HP.out.later hbel hG
      have c0 : wr.cell? ⟨G, m * 3, none⟩ = some (.int .u16 (t.a : Nat)) := hp m t 0 ht (by omega)
      have c1 : wr.cell? ⟨G, m * 3 + 1, none⟩ = some (.int .u16 (t.b : Nat)) := hp m t 1 ht (by omega)
      have c2 : wr.cell? ⟨G, m * 3 + 2, none⟩ = some (.int .i16 t.v) := hp m t 2 ht (by omega)
      have htm := List.mem_of_getElem? ht
      have hto := HOK.out t htm
      have hC := Lib.hid (key_any t hto wr)
      obtain ⟨q, hq⟩ : ∃ q, q = t.a * 65536 + t.b := ⟨_, rfl⟩
      rw [← hq] at hC
      have hq2 : q < 4294967296 := by have := hto.a; have := hto.b; omega
      have HT := Lib.hid (And.intro ht (And.intro htm hq))
      have hto1 := hto.a
      have hto2 := hto.b
      have HTO := Lib.hid (And.intro hto1 hto2)
      have hsz := hbel.size
      clear ht htm hto hq hp hd hd2 hm hbel hto1 hto2
      obtain ⟨ta, hta⟩ : ∃ ta, ta = t.a := ⟨_, rfl⟩
      obtain ⟨tb, htb⟩ : ∃ tb, tb = t.b := ⟨_, rfl⟩
      obtain ⟨tv, htv⟩ : ∃ tv, tv = t.v := ⟨_, rfl⟩
      rw [← hta] at c0 hC
      rw [← htb] at c1 hC
      rw [← htv] at c2 hC
      have HTV := Lib.hid (And.intro hta (And.intro htb htv))
      clear hta htb htv
      go_wp2_with fail
      refine hC.out.mono ?_
      rintro e w3 ⟨rfl, hb3⟩
      have HB3 := Lib.hid (HB.out.trans (hb3.mono hsz))
      have d2' : w3.cell? ⟨G, m * 3 + 2, none⟩ = some (.int .i16 tv) := (hb3.cell (by show G < wr.heap.size; omega)).trans c2
      clear hb3 c0 c1 c2
      by_cases hkq : k < q
      · have e1 : decide ((k : Int) < q) = true := decide_eq_true (by omega)
        go_wp2_with fail
        go_roundg (m - lo)
        case measure => have := HGK.out; omega
        case rel =>
          refine ⟨lo, m, rfl, rfl, rfl, hlm, by omega, H1.out, fun j y hj hy => ?_, HB3.out⟩
          obtain ⟨ht, htm, hq⟩ := HT.out
          by_cases hjm : j = m
          · subst hjm
            rw [ht] at hy
            obtain rfl := Option.some.inj hy
            unfold pk
            omega
          · have := str_pk HS.out HOK.out ht hy (by omega)
            unfold pk at this ⊢
            omega
      · have e1 : decide ((k : Int) < q) = false := decide_eq_false (by omega)
        by_cases hqk : q < k
        · have e2 : decide ((q : Int) < k) = true := decide_eq_true (by omega)
          go_wp2_with fail
          go_roundg (hi - (m + 1))
          case measure => have := HGK.out; omega
          case rel =>
            refine ⟨m + 1, hi, rfl, by go_num, rfl, by omega, hhn, fun j y hj hy => ?_, H2.out, HB3.out⟩
            obtain ⟨ht, htm, hq⟩ := HT.out
            by_cases hjm : j = m
            · subst hjm
              rw [ht] at hy
              obtain rfl := Option.some.inj hy
              unfold pk
              omega
            · have := str_pk HS.out HOK.out hy ht (by omega)
              unfold pk at this ⊢
              omega
        · have e2 : decide ((q : Int) < k) = false := decide_eq_false (by omega)
          go_wp2_with fail
          go_ret
          obtain ⟨ht, htm, hq⟩ := HT.out
          have hkk := HKK.out
          obtain ⟨t1, t2⟩ := HTO.out
          refine ⟨⟨_, rfl, Or.inl ⟨t, htm, by omega, by omega, ?_⟩⟩, HB3.out⟩
          exact HTV.out.2.2
    · have hne : ∀ t ∈ l, ¬ (t.a = a ∧ t.b = b) := by
        intro t ht ⟨ea, eb⟩
        obtain ⟨j, hj⟩ := List.getElem?_of_mem ht
        have hkk := HKK.out
        by_cases hjl : j < lo
        · have := H1.out j t hjl hj
          unfold pk at this
          rw [ea, eb] at this
          omega
        · have := H2.out j t (by omega) hj
          unfold pk at this
          rw [ea, eb] at this
          omega
      have HNE := Lib.hid hne
      clear hne hbel
      go_wp2_with fail
      go_ret
      exact ⟨⟨_, rfl, Or.inr ⟨rfl, HNE.out⟩⟩, HB.out⟩
end Go.Proofs.Ytkfgmjcdaggjcaa.Kp
