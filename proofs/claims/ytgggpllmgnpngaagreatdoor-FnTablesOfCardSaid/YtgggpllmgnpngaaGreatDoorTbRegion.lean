/- A region that draws its order, whose operations each own what they made. -/
import Derived.Test.YtgggpllmgnpngaaGreatDoorTbPut
import Derived.Orders
namespace Go.Proofs.YtgggpllmgnpngaaGreatDoor.Tb
open Go Go.RowKit

abbrev Foot := Nat → Prop
/-- What each operation takes, and what it leaves. -/
structure Law where
  takes : Nat → List Nat
  live : Nat → Act → Foot → World → Prop
  sh : Array Bool → Act → Foot → World → Prop
  base : Act → World → Prop

def Taken (L : Law) (listed : Array Bool) (j : Nat) : Prop := ∃ i, listed.getD i false = true ∧ j ∈ L.takes i
def Live (L : Law) (listed : Array Bool) (j : Nat) : Prop := listed.getD j false = true ∧ ¬ Taken L listed j

structure Inv (L : Law) (B n : Nat) (listed : Array Bool) (a : Act) (w : World) : Prop where
  size : listed.size = n
  base : L.base a w
  low : B ≤ w.heap.size
  feet : ∃ (F : Nat → Foot) (M : Foot), L.sh listed a M w ∧ (∀ b, M b → B ≤ b ∧ b < w.heap.size) ∧ (∀ j, Live L listed j → L.live j a (F j) w ∧ ∀ b, F j b → b < w.heap.size ∧ B ≤ b ∧ ¬ M b) ∧
    ∀ j k, Live L listed j → Live L listed k → j ≠ k → ∀ b, F j b → ¬ F k b

/-- What an operation does. -/
def Did (L : Law) (B i : Nat) (dst : Option Tmp) (listed : Array Bool) (F : Nat → Foot) (M : Foot) (a : Act) (w : World) (a' : Act) (w' : World) : Prop :=
  ∃ (v : Value) (F' M' : Foot), a' = a.put dst v ∧ L.base a' w' ∧ L.sh (listed.setIfInBounds i true) a' M' w' ∧ L.live i a' F' w' ∧ w.heap.size ≤ w'.heap.size ∧
    (∀ b, F' b → b < w'.heap.size ∧ B ≤ b ∧ ¬ M' b ∧ (w.heap.size ≤ b ∨ ∃ t, t ∈ L.takes i ∧ F t b)) ∧
    (∀ b, M' b → b < w'.heap.size ∧ B ≤ b ∧ (M b ∨ w.heap.size ≤ b ∨ ∃ t, t ∈ L.takes i ∧ F t b)) ∧
    (∀ b, b < w.heap.size → ¬ M b → (∀ t, t ∈ L.takes i → ¬ F t b) → w'.heap[b]? = w.heap[b]?)

def StepOK (P : Program) (ops : Array Oper) (Q : Exit → Act → World → Prop) (L : Law) (B i : Nat) : Prop :=
  ∀ (o : Oper) (listed : Array Bool) (a : Act) (w : World) (F : Nat → Foot) (M : Foot), ops[i]? = some o → listed.getD i true = false → (∀ e ∈ o.after, Region.binds .any e = true → listed.getD e.on false = true) →
    L.base a w → B ≤ w.heap.size → L.sh listed a M w → (∀ b, M b → B ≤ b ∧ b < w.heap.size) → (∀ t, t ∈ L.takes i → L.live t a (F t) w ∧ ∀ b, F t b → b < w.heap.size ∧ B ≤ b ∧ ¬ M b) →
    (∀ t k, t ∈ L.takes i → k ∈ L.takes i → t ≠ k → ∀ b, F t b → ¬ F k b) → wpOp P ops Q i (Did L B i o.dst listed F M a w) a w

def Stable (ops : Array Oper) (L : Law) : Prop :=
  ∀ (i j : Nat) (o : Oper) (listed : Array Bool) (a : Act) (F : Foot) (w w' : World) (v : Value), ops[i]? = some o → listed.getD i true = false → listed.getD j false = true → L.live j a F w → w.heap.size ≤ w'.heap.size →
    (∀ b, F b → w'.heap[b]? = w.heap[b]?) → L.live j (a.put o.dst v) F w'

structure Tidy (ops : Array Oper) (L : Law) : Prop where
  one : ∀ i k t, t ∈ L.takes i → t ∈ L.takes k → i = k
  waits : ∀ i o t, ops[i]? = some o → t ∈ L.takes i → ∃ e ∈ o.after, Region.binds .any e = true ∧ e.on = t

theorem left_set {listed : Array Bool} {i : Nat} (h : listed.getD i true = false) : (listed.setIfInBounds i true).toList.count false + 1 = listed.toList.count false := by
  have hi : i < listed.size := by
    rcases Nat.lt_or_ge i listed.size with h' | h'
    · exact h'
    · simp [Array.getElem?_eq_none h'] at h
  have hv : listed[i] = false := by simpa [hi] using h
  have hpos : 0 < listed.toList.count false := List.count_pos_iff.2 (by rw [← hv]; simp)
  have hv' : listed.toList[i]'(by simpa using hi) = false := by simpa using hv
  rw [Array.toList_setIfInBounds, List.count_set (by simpa using hi), hv']
  show listed.toList.count false - 1 + 0 + 1 = _
  omega

theorem getD_both' {listed : Array Bool} {i : Nat} (h : listed.getD i true = false) : listed.getD i false = false := by
  rcases Nat.lt_or_ge i listed.size with h' | h'
  · simp [h'] at h ⊢; exact h
  · simp [Array.getElem?_eq_none h'] at h
theorem set_at {listed : Array Bool} {i : Nat} (h : listed.getD i true = false) (j : Nat) : (listed.setIfInBounds i true).getD j false = true ↔ j = i ∨ listed.getD j false = true := by
  have hi : i < listed.size := by
    rcases Nat.lt_or_ge i listed.size with h' | h'
    · exact h'
    · simp [Array.getElem?_eq_none h'] at h
  by_cases e : j = i
  · subst e
    simp [hi]
  · have : (listed.setIfInBounds i true).getD j false = listed.getD j false := by
      simp [Ne.symm e]
    rw [this]
    simp [e]

/-- The law: whatever the order. -/
theorem wpAny_own {P : Program} {ops : Array Oper} {Q : Exit → Act → World → Prop} {L : Law} {B : Nat} (ht : Tidy ops L) (hst : Stable ops L) (hstep : ∀ i, i < ops.size → StepOK P ops Q L B i)
    (hdone : ∀ listed a w, Inv L B ops.size listed a w → Region.ready .any ops listed = [] → Q .normal a w) :
    ∀ (f : Nat) (listed : Array Bool) (a : Act) (w : World), listed.toList.count false ≤ f → Inv L B ops.size listed a w → wpAny P .any ops Q f listed a w := by
  intro f
  induction f with
  | zero =>
    intro listed a w hf hI
    have hr : Region.ready .any ops listed = [] := by
      cases hr : Region.ready .any ops listed with
      | nil => rfl
      | cons i r =>
        have hm : i ∈ Region.ready .any ops listed := by rw [hr]; simp
        have := left_set (mem_ready.1 hm).1
        omega
    exact ⟨hr, hdone _ _ _ hI hr⟩
  | succ f ih =>
    intro listed a w hf hI
    refine ⟨fun hr => hdone _ _ _ hI hr, fun i hi => ?_⟩
    obtain ⟨hun, o, ho, hall⟩ := mem_ready.1 hi
    have hil : i < ops.size := (Array.getElem?_eq_some_iff.1 ho).1
    obtain ⟨F, M, hsh, hM, hlive, hdis⟩ := hI.feet
    have htl : ∀ t, t ∈ L.takes i → Live L listed t := fun t h => by
      obtain ⟨e, he, hb, rfl⟩ := ht.waits i o t ho h
      refine ⟨hall e he hb, fun ⟨k, hk, hk2⟩ => ?_⟩
      have := ht.one i k _ h hk2
      subst this
      rw [getD_both' hun] at hk
      cases hk
    refine wpOp_mono ?_ (hstep i hil o listed a w F M ho hun hall hI.base hI.low hsh hM (fun t h => hlive t (htl t h)) (fun t k h1 h2 hne => hdis t k (htl t h1) (htl k h2) hne))
    rintro a' w' ⟨v, F', M', rfl, d1, d2, d3, d4, d5, d6, d7⟩
    have hl := left_set hun
    refine ih _ _ _ (by omega) ⟨by rw [Array.size_setIfInBounds]; exact hI.size, d1, Nat.le_trans hI.low d4, fun j => if j = i then F' else F j, M', d2, fun b hb => ⟨(d6 b hb).2.1, (d6 b hb).1⟩, ?_, ?_⟩
    · rintro j ⟨hj, hnt⟩
      by_cases e : j = i
      · subst e
        simp only [if_true]
        exact ⟨d3, fun b hb => ⟨(d5 b hb).1, (d5 b hb).2.1, (d5 b hb).2.2.1⟩⟩
      · simp only [e, if_false]
        have hjl : Live L listed j := ⟨((set_at hun j).1 hj).resolve_left e, fun ⟨k, hk, hk2⟩ => hnt ⟨k, (set_at hun k).2 (Or.inr hk), hk2⟩⟩
        have hjn : j ∉ L.takes i := fun h => hnt ⟨i, (set_at hun i).2 (Or.inl rfl), h⟩
        obtain ⟨l1, l2⟩ := hlive j hjl
        refine ⟨hst i j o listed a (F j) w w' v ho hun hjl.1 l1 d4 (fun b hb => d7 b (l2 b hb).1 (l2 b hb).2.2 (fun t htk hFt => hdis t j (htl t htk) hjl (fun e => hjn (e ▸ htk)) b hFt hb)), fun b hb => ⟨Nat.lt_of_lt_of_le (l2 b hb).1 d4, (l2 b hb).2.1, fun hm => ?_⟩⟩
        rcases (d6 b hm).2.2 with h | h | ⟨t, ht1, ht2⟩
        · exact (l2 b hb).2.2 h
        · have := (l2 b hb).1; omega
        · exact hdis t j (htl t ht1) hjl (fun e => hjn (e ▸ ht1)) b ht2 hb
    · rintro j k ⟨hj, hnj⟩ ⟨hk, hnk⟩ hne b hFj hFk
      have side : ∀ q, q ≠ i → (listed.setIfInBounds i true).getD q false = true → ¬ Taken L (listed.setIfInBounds i true) q → F q b → F' b → False := fun q hq h1 h2 h3 h4 => by
        have hql : Live L listed q := ⟨((set_at hun q).1 h1).resolve_left hq, fun ⟨m, hm, hm2⟩ => h2 ⟨m, (set_at hun m).2 (Or.inr hm), hm2⟩⟩
        have hqn : q ∉ L.takes i := fun h => h2 ⟨i, (set_at hun i).2 (Or.inl rfl), h⟩
        rcases (d5 b h4).2.2.2 with h | ⟨t, ht1, ht2⟩
        · have := ((hlive q hql).2 b h3).1; omega
        · exact hdis t q (htl t ht1) hql (fun e => hqn (e ▸ ht1)) b ht2 h3
      by_cases ej : j = i
      · subst ej
        simp only [if_true] at hFj
        simp only [Ne.symm hne, if_false] at hFk
        exact side k (Ne.symm hne) hk hnk hFk hFj
      · by_cases ek : k = i
        · subst ek
          simp only [if_true] at hFk
          simp only [ej, if_false] at hFj
          exact side j ej hj hnj hFj hFk
        · simp only [ej, if_false] at hFj
          simp only [ek, if_false] at hFk
          have live' : ∀ q, q ≠ i → (listed.setIfInBounds i true).getD q false = true → ¬ Taken L (listed.setIfInBounds i true) q → Live L listed q := fun q hq h1 h2 =>
            ⟨((set_at hun q).1 h1).resolve_left hq, fun ⟨m, hm, hm2⟩ => h2 ⟨m, (set_at hun m).2 (Or.inr hm), hm2⟩⟩
          exact hdis j k (live' j ej hj hnj) (live' k ek hk hnk) hne b hFj hFk

theorem wp_region_own {P : Program} {ops : Array Oper} {Q : Exit → Act → World → Prop} {L : Law} {B id : Nat} {a : Act} {w : World} (hm : P.follows .mixedOrders = true) (ht : Tidy ops L) (hst : Stable ops L) (hstep : ∀ i, i < ops.size → StepOK P ops Q L B i)
    (hdone : ∀ listed a w, Inv L B ops.size listed a w → Region.ready .any ops listed = [] → Q .normal a w) (h : Inv L B ops.size (Array.replicate ops.size false) a w.drew) : (Code.region id ops true).wp P Q a w :=
  wp_region_any hm (wpAny_own ht hst hstep hdone _ _ _ _ (by simp) h)
end Go.Proofs.YtgggpllmgnpngaaGreatDoor.Tb
