/- The reference: what the records say of a number, walked. -/
import Derived.Test.YtdihfcmmnljchaaNmTexts
namespace Go.Proofs.Ytdihfcmmnljchaa.Nm
open Go Go.RowKit

def Rec.cells (x : Rec) : List Value := [.int .i64 (x.id : Nat), .bool x.mac, .string (str x.runes)]
def recCells (l : List Rec) : List Value := l.flatMap Rec.cells
def ReadsRecs (w : World) (A : Option Addr) (l : List Rec) : Prop :=
  0 < l.length → ∃ g, A = some ⟨g, 0, none⟩ ∧ ∀ k x, l[k]? = some x → w.cell? ⟨g, k * 3, none⟩ = some (.int .i64 (x.id : Nat)) ∧ w.cell? ⟨g, k * 3 + 1, none⟩ = some (.bool x.mac) ∧ w.cell? ⟨g, k * 3 + 2, none⟩ = some (.string (str x.runes))

/-- What is said of a number. -/
def Said (l : List Rec) (id : Nat) (s : ByteArray) : Prop := (∀ x ∈ l, x.id = id → str x.runes = s) ∧ ((∀ x ∈ l, x.id ≠ id) → s = ⟨#[]⟩)

theorem take_mem {l : List Rec} {k : Nat} {x y : Rec} (h : l[k]? = some x) (hy : y ∈ l.take (k + 1)) : y ∈ l.take k ∨ y = x := by
  obtain ⟨hk, hx⟩ := List.getElem?_eq_some_iff.1 h
  rw [List.take_succ_eq_append_getElem hk, hx] at hy
  simpa using hy
theorem mem_take_succ {l : List Rec} {k : Nat} {x : Rec} (h : l[k]? = some x) : x ∈ l.take (k + 1) := by
  obtain ⟨hk, hx⟩ := List.getElem?_eq_some_iff.1 h
  rw [List.take_succ_eq_append_getElem hk, hx]
  simp

def RefAt (l : List Rec) (id k : Nat) (f : Bool) (s : ByteArray) : Prop :=
  (f = true → s = ⟨#[]⟩ ∧ ∀ x ∈ l.take k, x.id ≠ id) ∧ (f = false → (∃ x ∈ l.take k, x.id = id) ∧ ∀ x ∈ l.take k, x.id = id → str x.runes = s)

theorem RefAt.skip {l : List Rec} {id k : Nat} {f : Bool} {s : ByteArray} {x : Rec} (h : RefAt l id k f s) (hx : l[k]? = some x) (hne : x.id ≠ id) : RefAt l id (k + 1) f s := by
  refine ⟨fun hf => ⟨(h.1 hf).1, fun y hy => ?_⟩, fun hf => ⟨?_, fun y hy => ?_⟩⟩
  · rcases take_mem hx hy with h' | rfl
    · exact (h.1 hf).2 y h'
    · exact hne
  · obtain ⟨y, hy, he⟩ := (h.2 hf).1
    exact ⟨y, (List.take_subset_take_left l (Nat.le_succ k)) hy, he⟩
  · rcases take_mem hx hy with h' | rfl
    · exact (h.2 hf).2 y h'
    · exact fun e => absurd e hne
theorem RefAt.next {l : List Rec} {id k : Nat} {f : Bool} {s : ByteArray} {x : Rec} (h : RefAt l id k f s) (hx : l[k]? = some x) (he : x.id = id) (hs : f = true ∨ s = str x.runes) : RefAt l id (k + 1) false (str x.runes) := by
  refine ⟨fun hf => by simp at hf, fun _ => ⟨⟨x, mem_take_succ hx, he⟩, fun y hy e => ?_⟩⟩
  rcases take_mem hx hy with h' | rfl
  · cases f with
    | true => exact absurd e ((h.1 rfl).2 y h')
    | false =>
      have := (h.2 rfl).2 y h' e
      rcases hs with hs | hs
      · simp at hs
      · rw [this, hs]
  · rfl
theorem RefAt.done {l : List Rec} {id k : Nat} {f : Bool} {s : ByteArray} (h : RefAt l id k f s) (hk : l.length ≤ k) : Said l id s := by
  have e : l.take k = l := List.take_of_length_le hk
  unfold RefAt at h
  rw [e] at h
  cases f with
  | true => exact ⟨fun x hx e => absurd e ((h.1 rfl).2 x hx), fun _ => (h.1 rfl).1⟩
  | false =>
    refine ⟨(h.2 rfl).2, fun hn => ?_⟩
    obtain ⟨x, hx, he⟩ := (h.2 rfl).1
    exact absurd he (hn x hx)

theorem str_ne {s t : ByteArray} (h : ¬ s = t) : (s.toList == t.toList) = false := by
  rw [beq_eq_false_iff_ne]
  intro e
  rw [ByteArray.toList_eq, ByteArray.toList_eq] at e
  exact h (WideShapes.bytes_inj e)

def Refd (l : List Rec) (id : Nat) (w : World) (e : Ending) (w' : World) : Prop :=
  ∃ s d, e = .returned (.tuple #[.string s, .bool d]) ∧ (d = true → Said l id s) ∧ Below w.heap.size w w'

set_option maxHeartbeats 1000000 in
theorem ref_any (n : Nat) (A : Option Addr) (cap : Nat) (l : List Rec) (id : Nat) (w : World) (hn : l.length = n) (hn10 : n ≤ 10) (hid : id < 8) (hok : ∀ x ∈ l, x.id < 8) (hr : ReadsRecs w A l) :
    Calls Try.prog 6 #[.slice A n cap, .int .i64 id] w (Refd l id w) := by
  have HN := Lib.hid hn
  have HR := Lib.hid hr
  have HOK := Lib.hid hok
  clear hn hr hok
  go_enter Try.func6, Try.ntmps6
  go_wp2
  go_loopg [4, 6, 11] (n) (fun gk sv fv iv W => ∃ (k : Nat) (f : Bool) (s : ByteArray), k ≤ n ∧ gk = n - k ∧ sv = .string s ∧ fv = .bool f ∧ iv = .int .i64 k ∧ RefAt l id k f s ∧ Below w.heap.size w W)
  case atStart => exact ⟨0, true, ⟨#[]⟩, Nat.zero_le _, rfl, rfl, rfl, rfl, ⟨fun _ => ⟨rfl, by simp⟩, fun h => by simp at h⟩, Below.refl _ _⟩
  case round =>
    obtain ⟨k, f, s, hk, hgk, rfl, rfl, rfl, hat, hbel⟩ := hrel
    have HK := Lib.hid hgk
    have HA := Lib.hid hat
    have HB := Lib.hid hbel
    have hsz := hbel.size
    clear hgk hat
    by_cases hlt : k < n
    · obtain ⟨g, rfl, hcells⟩ := HR.out (by have := HN.out; omega)
      obtain ⟨x, hx⟩ : ∃ x, l[k]? = some x := ⟨_, List.getElem?_eq_getElem (by have := HN.out; omega)⟩
      obtain ⟨c0, c1, c2⟩ := hcells k x hx
      have hin : ∀ {j u}, w.cell? ⟨g, j, none⟩ = some u → wr.cell? ⟨g, j, none⟩ = some u := fun h => by
        rw [← h]; exact hbel.cell (World.block_lt_of_cell? w _ h)
      have d0 := hin c0
      have d1 := hin c1
      have d2 := hin c2
      have hid2 := HOK.out x (List.mem_of_getElem? hx)
      have HX := Lib.hid hx
      obtain ⟨id2, hi2⟩ : ∃ id2, id2 = x.id := ⟨_, rfl⟩
      obtain ⟨mc, hmc⟩ : ∃ mc, mc = x.mac := ⟨_, rfl⟩
      obtain ⟨t, ht⟩ : ∃ t, t = str x.runes := ⟨_, rfl⟩
      rw [← hi2] at d0 hid2
      rw [← hmc] at d1
      rw [← ht] at d2
      have HI := Lib.hid hi2
      have HT := Lib.hid ht
      clear c0 c1 c2 hcells hin hx hi2 hmc ht hbel
      by_cases hne : (id2 : Int) = id
      · have hne' : id2 = id := by omega
        subst hne'
        by_cases hf : f = true
        · subst hf
          go_wp2
          go_roundg (n - (k + 1))
          case measure => have := HK.out; omega
          case rel => exact ⟨k + 1, false, t, by omega, rfl, rfl, rfl, by go_num, by rw [HT.out]; exact HA.out.next HX.out HI.out.symm (Or.inl rfl), HB.out.alloc hsz _⟩
        · have hf' : f = false := by simpa using hf
          subst hf'
          by_cases hst : s = t
          · subst hst
            go_wp2
            go_roundg (n - (k + 1))
            case measure => have := HK.out; omega
            case rel => exact ⟨k + 1, false, s, by omega, rfl, rfl, rfl, by go_num, by rw [HT.out]; exact HA.out.next HX.out HI.out.symm (Or.inr HT.out), HB.out.alloc hsz _⟩
          · have hst' := str_ne hst
            go_wp2
            go_ret2
            exact ⟨_, _, rfl, fun h => by simp at h, HB.out.alloc hsz _⟩
      · go_wp2
        go_roundg (n - (k + 1))
        case measure => have := HK.out; omega
        case rel => exact ⟨k + 1, f, s, by omega, rfl, rfl, rfl, by go_num, HA.out.skip HX.out (by have := HI.out; omega), HB.out.alloc hsz _⟩
    · go_wp2
      go_ret2
      exact ⟨_, _, rfl, fun _ => HA.out.done (by have := HN.out; omega), HB.out⟩
end Go.Proofs.Ytdihfcmmnljchaa.Nm
