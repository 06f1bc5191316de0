/- The memory while the lists of a store are written. -/
import Derived.Test.YtdknpamegphjlaaLay
namespace Go.Proofs.Ytdknpamegphjlaa.Sd
open Go Go.RowKit

structure St (R T1 T2 : Nat) (A : Option Addr) (n cap : Nat) (w0 : World) (RB : List Nat) (rv : Value) (hb db : List Nat) (hv dv : Value) (c : Nat) (W : World) : Prop where
  reg : W.cell? ⟨T1, 0, none⟩ = some rv
  regs : Row (fun q => q ≤ T1 ∨ T2 ≤ q) W rv RB.length (byteCells RB)
  head : Tab T2 (T2 + 1) hb W hv
  data : W.ownsRow (T2 + 1) 5 1 dv db.length (byteCells db)
  disj : ∀ q, hv.ownBlock = some q → dv.ownBlock = some q → False
  wr : Writer R A n cap c W
  kept : Kept (fun k => k = R) w0 W
  low : R < w0.heap.size ∧ w0.heap.size ≤ T1 ∧ T1 < T2

section
variable {R T1 T2 : Nat} {A : Option Addr} {n cap : Nat} {w0 : World} {RB : List Nat} {rv : Value} {hb db : List Nat} {hv dv : Value} {c : Nat} {W W' : World}

theorem St.move {S : Nat → Prop} (h : St R T1 T2 A n cap w0 RB rv hb db hv dv c W) (k : Kept S W W') (hS : ∀ q, q < W.heap.size → S q → T2 ≤ q) : (W'.cell? ⟨T1, 0, none⟩ = some rv ∧ Row (fun q => q ≤ T1 ∨ T2 ≤ q) W' rv RB.length (byteCells RB)) ∧ Writer R A n cap c W' ∧ Kept (fun k => k = R) w0 W' := by
  obtain ⟨l1, l2, l3⟩ := h.low
  have hs := h.head.size
  have nT : ∀ q, q < T2 → ¬ S q := fun q hq h1 => by have := hS q (by omega) h1; omega
  have hR : W'.heap[R]? = W.heap[R]? := k.block R (by omega) (nT R (by omega))
  refine ⟨⟨k.cell h.reg (nT T1 l3), h.regs.kept k (fun q hq h1 => Or.inr (hS q hq h1))⟩, ⟨(World.cell?_of_block hR).trans h.wr.ways, (World.cell?_of_block hR).trans h.wr.count, (World.frozen?_of_block hR).trans h.wr.free⟩, h.kept.trans k (fun q hq h1 => absurd h1 (nT q (by omega)))⟩

theorem St.later (h : St R T1 T2 A n cap w0 RB rv hb db hv dv c W) (k : Below W.heap.size W W') : St R T1 T2 A n cap w0 RB rv hb db hv dv c W' := by
  obtain ⟨⟨a, b⟩, d, e⟩ := h.move (kept_of_below k) (fun _ _ h => h.elim)
  exact ⟨a, b, h.head.later k, own_block h.data (fun q hq => k.block q (h.data.lt q hq).2), h.disj, d, e, h.low⟩

theorem St.wrote {hb' : List Nat} {hv' : Value} (h : St R T1 T2 A n cap w0 RB rv hb db hv dv c W) (k : Wrote T2 (T2 + 1) hb' hv W hv' W') : St R T1 T2 A n cap w0 RB rv hb' db hv' dv c W' := by
  have hS : ∀ q, q < W.heap.size → (q = T2 ∨ some q = hv.ownBlock) → T2 ≤ q := fun q _ h1 => by
    rcases h1 with e | e
    · omega
    · have := (h.head.own.lt q e.symm).1; omega
  obtain ⟨⟨a, b⟩, d, e⟩ := h.move k.kept hS
  refine ⟨a, b, k.tab, k.kept.own h.data (fun q hq h1 => ?_), fun q h1 h2 => ?_, d, e, h.low⟩
  · rcases h1 with e | e
    · have := (h.data.lt q hq).1; omega
    · exact h.disj q e.symm hq
  · rcases k.born with e | ⟨p, e, hp⟩
    · exact h.disj q (e ▸ h1) h2
    · rw [e] at h1
      have := Option.some.inj h1
      have := (h.data.lt q h2).2
      omega

theorem St.chose (h : St R T1 T2 A n cap w0 RB rv hb db hv dv c W) (k : Chose R A n cap c W W') : ∃ c', c' ≤ c + 1 ∧ St R T1 T2 A n cap w0 RB rv hb db hv dv c' W' := by
  obtain ⟨l1, l2, l3⟩ := h.low
  have hs := h.head.size
  obtain ⟨c', hc, hw⟩ := k.writer
  have hk := k.kept
  have nT : ∀ q, T2 ≤ q → ¬ q = R := fun q hq e => by omega
  refine ⟨c', hc, hk.cell h.reg (by omega), h.regs.kept hk (fun q _ e => Or.inl (by omega)), ?_, ?_, h.disj, hw, h.kept.trans hk (fun q _ h => h), h.low⟩
  · refine ⟨hk.cell h.head.cell (nT T2 (Nat.le_refl _)), ?_, hk.own h.head.own (fun q hq => nT q (by have := (h.head.own.lt q hq).1; omega)), h.head.low, Nat.le_trans h.head.size hk.size⟩
    rw [← h.head.free]
    exact World.frozen?_of_block (hk.block T2 (by omega) (nT T2 (Nat.le_refl _)))
  · exact hk.own h.data (fun q hq => nT q (by have := (h.data.lt q hq).1; omega))

/-- A list's bytes put behind the data. -/
theorem St.more {nb : List Nat} {dv' : Value} {g cp : Nat} (h : St R T1 T2 A n cap w0 RB rv hb db hv dv c W) (hg : W.grownBy W' dv.ownBlock) (hv' : dv' = .slice (some ⟨g, 0, none⟩) (db.length + nb.length) cp) (ho : W'.ownsRow (T2 + 1) 5 1 dv' (db.length + nb.length) (byteCells db ++ byteCells nb)) (hat : dv.ownBlock = some g ∨ g = W.heap.size) : St R T1 T2 A n cap w0 RB rv hb (db ++ nb) hv dv' c W' := by
  have k := kept_of_grown hg
  obtain ⟨⟨a, b⟩, d, e⟩ := h.move k (fun q _ h1 => by have := (h.data.lt q h1.symm).1; omega)
  have hne : ¬ some T2 = dv.ownBlock := fun e => by have := (h.data.lt T2 e.symm).1; omega
  have hs := h.head.size
  refine ⟨a, b, ⟨k.cell h.head.cell hne, ?_, k.own h.head.own (fun q hq h1 => h.disj q hq h1.symm), h.head.low, Nat.le_trans h.head.size k.size⟩, by rw [List.length_append, byteCells_append]; exact ho, fun q h1 h2 => ?_, d, e, h.low⟩
  · rw [← h.head.free]
    exact World.frozen?_of_block (k.block T2 (by omega) hne)
  · rw [hv'] at h2
    have h3 : g = q := Option.some.inj h2
    rcases hat with e | e
    · exact h.disj q h1 (by rw [e, h3])
    · have := (h.head.own.lt q h1).2
      omega
end
end Go.Proofs.Ytdknpamegphjlaa.Sd
