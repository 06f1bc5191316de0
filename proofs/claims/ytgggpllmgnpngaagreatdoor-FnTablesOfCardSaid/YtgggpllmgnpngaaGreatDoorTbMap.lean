/- Maps made by the call, of whatever values. -/
import Derived.Test.YtgggpllmgnpngaaGreatDoorTbText
import Derived.Maps.RangeWalk
namespace Go.Proofs.YtgggpllmgnpngaaGreatDoor.Tb
open Go Go.RowKit

/-- The tags, rising. -/
def tags : List (List UInt8) := [[79, 83, 47, 50], [99, 109, 97, 112], [104, 101, 97, 100], [104, 104, 101, 97], [104, 109, 116, 120], [109, 97, 120, 112], [110, 97, 109, 101], [112, 111, 115, 116]]
def tag (i : Nat) : ByteArray := ⟨(tags.getD i []).toArray⟩

theorem nan_any (s : ByteArray) (w : World) : Calls Tryz.prog 103 #[.string s] w fun e w' => e = .returned (.bool false) ∧ w = w' := by
  go_enter Tryz.func103, Tryz.ntmps103
  go_wp2
  go_ret
  exact ⟨rfl, rfl⟩

theorem less_any (s t : ByteArray) (w : World) (b : Bool) (hb : Op.bytesLess s.toList t.toList = b) : Calls Tryz.prog 72 #[.string s, .string t] w fun e w' => e = .returned (.bool b) ∧ w = w' := by
  have HB := Lib.hid hb
  clear hb
  go_enter Tryz.func72, Tryz.ntmps72
  go_wp2_with fail
  with_reducible refine (nan_any _ _).mono ?_
  rintro e w' ⟨rfl, hw⟩
  subst hw
  go_wp2_with fail
  go_ret
  exact ⟨by rw [← HB.out]; rfl, rfl⟩

theorem tags_less : ∀ i, i < 8 → ∀ j, j < 8 → Op.bytesLess (tag i).toList (tag j).toList = decide (i < j) := by decide +kernel
theorem tags_size : ∀ i, i < 8 → (tag i).size = 4 := by decide +kernel
theorem less_tag (i j : Nat) (hi : i < 8) (hj : j < 8) (w : World) : Calls Tryz.prog 72 #[.string (tag i), .string (tag j)] w fun e w' => e = .returned (.bool (decide (i < j))) ∧ w = w' :=
  less_any _ _ w _ (tags_less i hi j hj)
end Go.Proofs.YtgggpllmgnpngaaGreatDoor.Tb

namespace Go.Proofs.YtgggpllmgnpngaaGreatDoor.Tb
open Go Go.RowKit
open Go.Maps (Keyed)

/-- A map's element stands for itself. -/
def hv (v : Value) : Option (DataW Value × List MemPlace) := some (.held v, [])
theorem hv_inj {v u : Value} {ps : List MemPlace} (h : hv v = some (.held u, ps)) : v = u := by
  unfold hv at h
  injection h with h
  injection h with h1 _
  injection h1

/-- What a map holds: the keys of these numbers, their values. -/
structure MapIs (key : Nat → Lit) (val : Nat → Value) (S : List Nat) (D : DataW Value) : Prop where
  tidy : Maps.Tidy D
  has : ∀ i ∈ S, Maps.has D (key i) = true
  get : ∀ i ∈ S, ∀ z, D.atKey (key i) z = .held (val i)
  only : ∀ kl, Maps.has D kl = true → ∃ i ∈ S, kl = key i
  size : Maps.size D = S.length

theorem MapIs.nil (key : Nat → Lit) (val : Nat → Value) : MapIs key val [] (.map []) :=
  ⟨Maps.tidy_empty, by simp, by simp, fun kl h => by simp [Maps.has] at h, rfl⟩

def upd (val : Nat → Value) (i : Nat) (v : Value) : Nat → Value := fun j => if j = i then v else val j
theorem upd_same (val : Nat → Value) (i : Nat) (v : Value) : upd val i v i = v := by simp [upd]
theorem upd_other (val : Nat → Value) {i j : Nat} (v : Value) (h : j ≠ i) : upd val i v j = val j := by simp [upd, h]

section
variable {key : Nat → Lit} {val : Nat → Value} {S : List Nat} {D : DataW Value}
theorem MapIs.put_new (h : MapIs key val S D) {i : Nat} (hk : WideAt.IsKeyLit (key i)) (hne : ∀ j ∈ S, key j ≠ key i) (v : Value) : MapIs key (upd val i v) (i :: S) (D.put (key i) (.held v)) := by
  have hno : Maps.has D (key i) = false := by
    cases hh : Maps.has D (key i)
    · rfl
    · obtain ⟨j, hj, e⟩ := h.only _ hh
      exact absurd e.symm (hne j hj)
  refine ⟨h.tidy.put hk _, fun j hj => ?_, fun j hj z => ?_, fun kl hkl => ?_, ?_⟩
  · rcases List.mem_cons.1 hj with rfl | hj
    · exact Maps.has_put_same h.tidy.isMap hk _
    · rw [Maps.has_put_other (hne j hj)]; exact h.has j hj
  · rcases List.mem_cons.1 hj with rfl | hj
    · rw [Maps.atKey_put_same h.tidy.isMap hk, upd_same]
    · have hji : j ≠ i := fun e => hne j hj (by rw [e])
      rw [Maps.atKey_put_other (hne j hj), h.get j hj, upd_other _ _ hji]
  · by_cases e : kl = key i
    · exact ⟨i, by simp, e⟩
    · rw [Maps.has_put_other e] at hkl
      obtain ⟨j, hj, e2⟩ := h.only kl hkl
      exact ⟨j, by simp [hj], e2⟩
  · rw [Maps.size_put h.tidy, hno, h.size]
    simp
theorem MapIs.put_old (h : MapIs key val S D) {i : Nat} (hk : WideAt.IsKeyLit (key i)) (hi : i ∈ S) (hne : ∀ j ∈ S, j ≠ i → key j ≠ key i) (v : Value) : MapIs key (upd val i v) S (D.put (key i) (.held v)) := by
  refine ⟨h.tidy.put hk _, fun j hj => ?_, fun j hj z => ?_, fun kl hkl => ?_, ?_⟩
  · by_cases e : j = i
    · subst e; exact Maps.has_put_same h.tidy.isMap hk _
    · rw [Maps.has_put_other (hne j hj e)]; exact h.has j hj
  · by_cases e : j = i
    · subst e; rw [Maps.atKey_put_same h.tidy.isMap hk, upd_same]
    · rw [Maps.atKey_put_other (hne j hj e), h.get j hj, upd_other _ _ e]
  · by_cases e : kl = key i
    · exact ⟨i, hi, e⟩
    · rw [Maps.has_put_other e] at hkl
      exact h.only kl hkl
  · rw [Maps.size_put h.tidy, h.has i hi, if_pos rfl, h.size]
theorem MapIs.no (h : MapIs key val S D) {kl : Lit} (hne : ∀ j ∈ S, kl ≠ key j) : Maps.has D kl = false := by
  cases hh : Maps.has D kl
  · rfl
  · obtain ⟨j, hj, e⟩ := h.only _ hh
    exact absurd e (hne j hj)
end

theorem own_map_block {w w' : World} {k : TypeId} {b n : Nat} {D : DataW Value} (h : w.ownsMap Tryz.prog k hv b n D) (hb : w'.heap[b]? = w.heap[b]?) : w'.ownsMap Tryz.prog k hv b n D := by
  obtain ⟨es, clock, h1, h2⟩ := h
  exact ⟨es, clock, hb.trans h1, h2⟩

/-- 'm[k] = v', for the walk: the map's literal too. -/
theorem wpList_insert_own {w : World} {ops : Array Oper} {rest : List Oper} {o : Oper} {a : Act} {Q : Exit → Act → World → Prop}
    (hg : o.guard = none) (m x v : Operand) (t : TypeId) (hop : o.op = Op.insert t m x v)
    (k e : TypeId) (K : Keyed Tryz.prog k) (ht : Tryz.prog.underlying t = some (.map k e)) (b n : Nat) (D : DataW Value)
    (hm : a.eval m = .map (some b)) (hown : w.ownsMap Tryz.prog k hv b n D) (hn : n < maxLen) (key val : Value) (kl : Lit) (hx : a.eval x = key) (hv' : a.eval v = val) (hkey : keyOf Tryz.prog k key = some kl)
    (hK : ∀ w', w'.ownsMap Tryz.prog k hv b (n + 1) (D.put kl (.held val)) → w.grownBy w' (some b) → wpList Tryz.prog ops Q rest (a.put o.dst undef) w') :
    wpList Tryz.prog ops Q (o :: rest) a w := by
  refine wpList_plain hg fun K' hK' => ?_
  obtain ⟨w', hrun, r1, r2⟩ := hown.update (R := hv) K ht hn hkey (show hv val = some (.held val, []) from rfl)
  unfold Oper.wp
  simp [execOp, hop, hm, hx, hv', hrun, Result.andThen]
  exact hK' _ _ (hK w' r1 r2)
end Go.Proofs.YtgggpllmgnpngaaGreatDoor.Tb
