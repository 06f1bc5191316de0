/- The set's operations, told of a set that is held by its variable. -/
import Derived.Test.YtpmlofllkhpihaaRsAdd
namespace Go.Proofs.Ytpmlofllkhpihaa.Rs
open Go Go.RowKit

theorem del_length (ps : List Page) (r : Nat) : (del ps r).length = ps.length := by
  unfold del setw
  split <;> simp

theorem del_any (Bs base n : Nat) (v : Value) (ps : List Page) (r : Nat) (w : World) (hn : ps.length = n) (hn100 : n ≤ 1000) (hg : Good ps) (hr : Rising ps)
    (hold : Holds Bs base ps w v) (hrr : r < 1114112) :
    Calls Try.prog 10 #[v, .int .i32 r] w fun e w' => e = .returned (.tuple #[]) ∧ After Bs base (del ps r) w w' := by
  subst hn
  cases hh : hit ps (r / 256) with
  | false =>
    have : del ps r = ps := by unfold del; rw [if_neg (by simp [hh])]
    rw [this]
    obtain ⟨A, cap, rfl, hread⟩ := own_reads rfl hold.own
    refine (del_miss A ps.length cap ps r w rfl hn100 hg hr hread hrr hh).mono ?_
    rintro e w' ⟨rfl, rfl⟩
    exact ⟨rfl, _, hold, Below.refl _ _⟩
  | true =>
    have hl := hit_lt hh
    obtain ⟨g, cap', cur, rfl, hgb, hgh, hcap, hmax, hcl, htake⟩ := Row.own_form hold.own (by omega)
    refine (del_hit base g ps.length cap' ps r w rfl hn100 hg hr hold.own hrr hh).mono ?_
    rintro e w' ⟨rfl, ht⟩
    have hlow := hold.low
    have hsz := hold.size
    have hb : Below Bs w w' := (Below.refl Bs w).grown ht.grown (by omega) (fun k hk => by have : some g = some k := hk; have := Option.some.inj this; omega)
    have hne : some Bs ≠ (Value.slice (some ⟨g, 0, none⟩) ps.length cap').ownBlock := fun h => by have : some Bs = some g := h; have := Option.some.inj this; omega
    have hk : w'.heap[Bs]? = w.heap[Bs]? := ht.grown.block Bs (by omega) hne
    refine ⟨rfl, _, ⟨(World.cell?_of_block hk).trans hold.cell, (World.frozen?_of_block hk).trans hold.free, ?_, hlow, Nat.le_trans hsz ht.grown.size⟩, hb⟩
    rw [del_length]
    exact ht.own

theorem contains_any (Bs base n : Nat) (v : Value) (ps : List Page) (r : Nat) (w : World) (hn : ps.length = n) (hn100 : n ≤ 1000) (hg : Good ps) (hr : Rising ps)
    (hold : Holds Bs base ps w v) (hrr : r < 1114112) :
    Calls Try.prog 12 #[v, .int .i32 r] w fun e w' => e = .returned (.bool (mem ps r)) ∧ Drew w w' := by
  subst hn
  cases hh : hit ps (r / 256) with
  | false =>
    obtain ⟨A, cap, rfl, hread⟩ := own_reads rfl hold.own
    exact contains_miss A ps.length cap ps r w rfl hn100 hg hr hread hrr hh
  | true =>
    have hl := hit_lt hh
    obtain ⟨g, cap', cur, rfl, hgb, hgh, hcap, hmax, hcl, htake⟩ := Row.own_form hold.own (by omega)
    obtain ⟨A, cap, hv, hread⟩ := own_reads rfl hold.own
    obtain ⟨rfl, _, rfl⟩ := Value.slice.inj hv
    exact contains_hit g ps.length cap' ps r w rfl hn100 hg hr hread hrr hh
end Go.Proofs.Ytpmlofllkhpihaa.Rs
