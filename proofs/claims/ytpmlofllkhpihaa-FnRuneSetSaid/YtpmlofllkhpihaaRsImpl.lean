/- impl.RuneSet, walked. -/
import Derived.Test.YtpmlofllkhpihaaRsCount
namespace Go.Proofs.Ytpmlofllkhpihaa.Rs
open Go Go.RowKit

/-- One operation: taken away, or added. -/
def step (ps : List Page) (o : Bool × Nat) : List Page := if o.1 then del ps o.2 else add ps o.2
def after (ops : List (Bool × Nat)) : List Page := ops.foldl step []
def Runes (ops : List (Bool × Nat)) : Prop := ∀ o ∈ ops, o.2 < 1114112

theorem after_snoc (ops : List (Bool × Nat)) (o : Bool × Nat) : after (ops ++ [o]) = step (after ops) o := by simp [after]
theorem after_take {ops : List (Bool × Nat)} {k : Nat} {o : Bool × Nat} (h : ops[k]? = some o) : after (ops.take (k + 1)) = step (after (ops.take k)) o := by
  obtain ⟨hk, ho⟩ := List.getElem?_eq_some_iff.1 h
  rw [List.take_succ_eq_append_getElem hk, after_snoc, ho]

theorem step_ok {ps : List Page} {o : Bool × Nat} (hr : o.2 < 1114112) (h : Good ps ∧ Rising ps) : Good (step ps o) ∧ Rising (step ps o) ∧ (step ps o).length ≤ ps.length + 1 := by
  unfold step
  split
  · exact ⟨del_good h.1 _, del_rising h.2 _, by rw [del_length]; omega⟩
  · refine ⟨add_good h.1 (by omega), add_rising h.2 _, ?_⟩
    unfold add setw
    rw [List.length_modify]
    unfold ins
    split
    · omega
    · simp; omega

theorem after_ok : ∀ (ops : List (Bool × Nat)), Runes ops → ∀ k, Good (after (ops.take k)) ∧ Rising (after (ops.take k)) ∧ (after (ops.take k)).length ≤ k
  | ops, h, 0 => ⟨fun p hp => by simp [after] at hp, by simp [after, Rising], by simp [after]⟩
  | ops, h, k + 1 => by
    have ih := after_ok ops h k
    cases ho : ops[k]? with
    | some o =>
      rw [after_take ho]
      have := step_ok (h o (List.mem_of_getElem? ho)) ⟨ih.1, ih.2.1⟩
      exact ⟨this.1, this.2.1, by omega⟩
    | none =>
      have hk := List.getElem?_eq_none_iff.1 ho
      have e : ops.take (k + 1) = ops.take k := by rw [List.take_of_length_le (by omega), List.take_of_length_le (by omega)]
      rw [e]
      exact ⟨ih.1, ih.2.1, by omega⟩

def ReadsOps (w : World) (A : Option Addr) (ops : List (Bool × Nat)) : Prop :=
  0 < ops.length → ∃ g, A = some ⟨g, 0, none⟩ ∧ ∀ k o, ops[k]? = some o → w.cell? ⟨g, k * 2, none⟩ = some (.bool o.1) ∧ w.cell? ⟨g, k * 2 + 1, none⟩ = some (.int .i32 (o.2 : Nat))
def ReadsRunes (w : World) (A : Option Addr) (q : List Nat) : Prop :=
  0 < q.length → ∃ g, A = some ⟨g, 0, none⟩ ∧ ∀ k r, q[k]? = some r → w.cell? ⟨g, k, none⟩ = some (.int .i32 (r : Nat))

theorem own_block {w w' : World} {base n : Nat} {e : TypeId} {size : Nat} {v : Value} {xs : List Value} (h : w.ownsRow base e size v n xs) (hk : ∀ k, v.ownBlock = some k → w'.heap[k]? = w.heap[k]?) : w'.ownsRow base e size v n xs := by
  obtain ⟨hl, h | ⟨g, cap, cur, hv, hb, hg, hrest⟩⟩ := h
  · exact ⟨hl, .inl h⟩
  · exact ⟨hl, .inr ⟨g, cap, cur, hv, hb, (hk g (by rw [hv]; rfl)).trans hg, hrest⟩⟩

theorem Holds.alloc {Bs base : Nat} {qs : List Page} {w : World} {v : Value} (h : Holds Bs base qs w v) (o : Obj) : Holds Bs base qs (w.alloc o) v := by
  have hlow := h.low
  have hsz := h.size
  have hk : (w.alloc o).heap[Bs]? = w.heap[Bs]? := Below.heap_alloc _ _ _ (by omega)
  exact ⟨(World.cell?_of_block hk).trans h.cell, (World.frozen?_of_block hk).trans h.free, h.own.alloc _, hlow, by simp; omega⟩
theorem Holds.below {Bs base : Nat} {qs : List Page} {w w' : World} {v : Value} (h : Holds Bs base qs w v) (hb : Below w.heap.size w w') : Holds Bs base qs w' v := by
  have hlow := h.low
  have hsz := h.size
  have hk : w'.heap[Bs]? = w.heap[Bs]? := hb.block _ (by omega)
  exact ⟨(World.cell?_of_block hk).trans h.cell, (World.frozen?_of_block hk).trans h.free, own_block h.own (fun k hk => hb.block k (h.own.lt k hk).2), hlow, Nat.le_trans hsz hb.size⟩

theorem step_any (Bs base n : Nat) (v : Value) (ps : List Page) (w : World) (hn : ps.length = n) (hn100 : n ≤ 1000) (hg : Good ps) (hr : Rising ps)
    (hold : Holds Bs base ps w v) (r : Nat) (hrr : r < 1114112) :
    Calls Try.prog 10 #[v, .int .i32 r] w (fun e w' => e = .returned (.tuple #[]) ∧ After Bs base (step ps (true, r)) w w') ∧
    Calls Try.prog 11 #[.pointer (some ⟨Bs, 0, none⟩), .int .i32 r] w (fun e w' => e = .returned (.tuple #[]) ∧ After Bs base (step ps (false, r)) w w') :=
  ⟨del_any Bs base n v ps r w hn hn100 hg hr hold hrr, add_any Bs base n v ps r w hn hn100 hg hr hold hrr⟩

theorem info4 : (Try.prog.info? 4).map (fun i => (i.zero, i.size, i.bytes)) = some (some (.bool false), 1, 1) := by kernel_rfl
theorem one_bool (b : Bool) : ∀ u ∈ [Value.bool b], u.oneCell' = true := by simp [Value.oneCell']

theorem holds_new (w : World) : Holds w.heap.size (w.heap.size + 1) [] (w.alloc (.cells #[.slice none 0 0] 40)) (.slice none 0 0) :=
  ⟨World.cell?_alloc_new .., World.frozen?_alloc_new .., World.ownsRow_nil _ _ _ _, Nat.lt_succ_self _, by simp⟩

def boolsOf (ps : List Page) (q : List Nat) : List Value := q.map fun r => .bool (mem ps r)

theorem bools_take {ps : List Page} {q : List Nat} {j r : Nat} (h : q[j]? = some r) : boolsOf ps (q.take (j + 1)) = boolsOf ps (q.take j) ++ [.bool (mem ps r)] := by
  obtain ⟨hj, hr⟩ := List.getElem?_eq_some_iff.1 h
  unfold boolsOf
  rw [List.take_succ_eq_append_getElem hj, List.map_append, hr]
  rfl
theorem own_base {w : World} {base base' n : Nat} {e : TypeId} {size : Nat} {v : Value} {xs : List Value} (h : w.ownsRow base e size v n xs) (hb : base' ≤ base) : w.ownsRow base' e size v n xs := by
  obtain ⟨hl, h | ⟨g, cap, cur, hv, hg, hrest⟩⟩ := h
  · exact ⟨hl, .inl h⟩
  · exact ⟨hl, .inr ⟨g, cap, cur, hv, by omega, hrest⟩⟩

def Answered (ops : List (Bool × Nat)) (q : List Nat) (w : World) (e : Ending) (w' : World) : Prop :=
  ∃ hv, e = .returned (.tuple #[.int .i64 (cnt (after ops)), hv]) ∧ w'.ownsRow w.heap.size 4 1 hv q.length (boolsOf (after ops) q) ∧ Below w.heap.size w w'

set_option maxHeartbeats 2000000 in
theorem impl_any (n m : Nat) (A A2 : Option Addr) (cap cap2 : Nat) (ops : List (Bool × Nat)) (q : List Nat) (w : World) (hn : ops.length = n) (hm : q.length = m) (hn60 : n ≤ 60) (hm20 : m ≤ 20)
    (hops : Runes ops) (hq : ∀ r ∈ q, r < 1114112) (h1 : ReadsOps w A ops) (h2 : ReadsRunes w A2 q) :
    Calls Try.prog 7 #[.slice A n cap, .slice A2 m cap2] w (Answered ops q w) := by
  have HN := Lib.hid hn
  have HM := Lib.hid hm
  have HO := Lib.hid hops
  have HQ := Lib.hid hq
  have H1 := Lib.hid h1
  have H2 := Lib.hid h2
  clear hn hm hops hq h1 h2
  obtain ⟨i0, hi, hz0, hz1, hz2⟩ := info_parts info4
  go_enter Try.func7, Try.ntmps7
  go_wp2
  go_loopg [13] (n) (fun gk iv W => ∃ k : Nat, k ≤ n ∧ gk = n - k ∧ iv = .int .i64 k ∧ (∃ v, Holds w.heap.size (w.heap.size + 1) (after (ops.take k)) W v) ∧ Below w.heap.size w W)
  case atStart =>
    refine ⟨0, Nat.zero_le _, rfl, rfl, ⟨_, holds_new w⟩, (Below.refl _ _).alloc (Nat.le_refl _) _⟩
  case round =>
    obtain ⟨k, hk, hgk, rfl, ⟨v, hold⟩, hbel⟩ := hrel
    have HK := Lib.hid hgk
    clear hgk
    by_cases hlt : k < n
    · obtain ⟨g, rfl, hcells⟩ := H1.out (by have := HN.out; omega)
      obtain ⟨o, ho⟩ : ∃ o, ops[k]? = some o := ⟨_, List.getElem?_eq_getElem (by have := HN.out; omega)⟩
      obtain ⟨c0, c1⟩ := hcells k o ho
      have hin : ∀ {j x}, w.cell? ⟨g, j, none⟩ = some x → wr.cell? ⟨g, j, none⟩ = some x := fun h => by
        rw [← h]; exact hbel.cell (World.block_lt_of_cell? w _ h)
      have d0 := hin c0
      have d1 := hin c1
      have hok := after_ok ops HO.out k
      have hsz : w.heap.size < wr.heap.size := hold.size
      have hsne : w.heap.size ≠ wr.heap.size := by omega
      have hc := hold.cell
      have hor := HO.out o (List.mem_of_getElem? ho)
      have hsn := after_take ho
      obtain ⟨off, r⟩ := o
      have HS := Lib.hid (fun W v (h : Holds w.heap.size (w.heap.size + 1) (after (ops.take k)) W v) => step_any w.heap.size (w.heap.size + 1) _ v _ W rfl (by omega) hok.1 hok.2.1 h r hor)
      have HA := Lib.hid hsn
      have HH := Lib.hid hold
      have HB := Lib.hid hbel
      clear c0 c1 hcells hin hsn hok hbel hold ho
      cases off with
      | true =>
        go_wp2_with fail
        refine (HS.out _ v (HH.out.alloc _)).1.mono ?_
        rintro e w3 ⟨rfl, v', hold', hb'⟩
        have HH' := Lib.hid hold'
        have HB' := Lib.hid hb'
        clear hold' hb'
        go_wp2
        go_roundg (n - (k + 1))
        case measure => have := HK.out; omega
        case rel => exact ⟨k + 1, by omega, rfl, val_i64 (by omega), ⟨v', by rw [HA.out]; exact HH'.out⟩, (HB.out.alloc (by omega) _).trans HB'.out⟩
      | false =>
        go_wp2_with fail
        refine (HS.out _ v (HH.out.alloc _)).2.mono ?_
        rintro e w3 ⟨rfl, v', hold', hb'⟩
        have HH' := Lib.hid hold'
        have HB' := Lib.hid hb'
        clear hold' hb'
        go_wp2
        go_roundg (n - (k + 1))
        case measure => have := HK.out; omega
        case rel => exact ⟨k + 1, by omega, rfl, val_i64 (by omega), ⟨v', by rw [HA.out]; exact HH'.out⟩, (HB.out.alloc (by omega) _).trans HB'.out⟩
    · have hkn : ops.take k = ops := List.take_of_length_le (by have := HN.out; omega)
      rw [hkn] at hold
      obtain ⟨ps, hps⟩ : ∃ ps, ps = after ops := ⟨_, rfl⟩
      have hok := after_ok ops HO.out ops.length
      rw [List.take_length, ← hps] at hok
      rw [← hps] at hold
      have hpl : ps.length ≤ 60 := by have := HN.out; omega
      have hg := hok.1
      have hr := hok.2.1
      have HPS := Lib.hid hps
      have HH := Lib.hid hold
      have HB := Lib.hid hbel
      have HOK := Lib.hid hok
      have hsz : w.heap.size < wr.heap.size := hold.size
      clear hok hps hbel hkn hg hr hold
      go_wp2
      obtain ⟨w2, rfl⟩ : ∃ w2 : World, w2 = wr := ⟨_, rfl⟩
      go_loopg [29, 5] (m) (fun gk iv hv W => ∃ k : Nat, k ≤ m ∧ gk = m - k ∧ iv = .int .i64 k ∧ W.ownsRow w2.heap.size 4 1 hv k (boolsOf ps (q.take k)) ∧ Below w2.heap.size w2 W)
      case atStart => exact ⟨0, Nat.zero_le _, rfl, rfl, World.ownsRow_nil _ _ _ _, Below.refl _ _⟩
      case round =>
        obtain ⟨j, hj, hgj, rfl, hown, hbel2⟩ := hrel
        have HJ := Lib.hid hgj
        clear hgj
        have hold2 := HH.out.below hbel2
        have hc2 := hold2.cell
        have HH2 := Lib.hid hold2
        have HOW := Lib.hid hown
        have HB2 := Lib.hid hbel2
        by_cases hlt2 : j < m
        · obtain ⟨g, rfl, hcells⟩ := H2.out (by have := HM.out; omega)
          obtain ⟨r, hr⟩ : ∃ r, q[j]? = some r := ⟨_, List.getElem?_eq_getElem (by have := HM.out; omega)⟩
          have c0 := hcells j r hr
          have d0 : wr.cell? ⟨g, j, none⟩ = some (.int .i32 (r : Nat)) := by
            rw [← c0, hbel2.cell (by show g < _; have := World.block_lt_of_cell? w _ c0; have : g < w.heap.size := this; omega), HB.out.cell (World.block_lt_of_cell? w _ c0)]
          have hrr := HQ.out r (List.mem_of_getElem? hr)
          have HC := Lib.hid (contains_any w.heap.size (w.heap.size + 1) _ _ ps r wr rfl (by omega) HOK.out.1 HOK.out.2.1 hold2 hrr)
          have HR := Lib.hid hr
          clear hold2 hown hbel2 hcells hr c0
          go_wp2_with fail
          refine HC.out.mono ?_
          rintro e w3 ⟨rfl, mm, rfl⟩
          have howd : (wr.drewN mm).ownsRow w2.heap.size 4 1 u5 j (boolsOf ps (q.take j)) := own_block HOW.out (fun _ _ => rfl)
          have hs2 := HB2.out.size
          obtain ⟨ans, hans⟩ : ∃ ans, mem ps r = ans := ⟨_, rfl⟩
          rw [hans]
          go_wp2_with (at_builtin; go_must (refine wpList_append_own _ rfl (.tmp 33) (.tmp 37) 32 rfl (w2.heap.size) 4 i0 (.bool false) 1 1 Try.underlying32 hi hz0 hz1 hz2 rfl (by decide) _ _ _ rfl (howd.alloc _) ⟨(wr.drewN mm).heap.size, 0, none⟩ 1 1 [_] rfl rfl (cell_one_new _ _ _) (one_bool _) ?_ ?_ ?_ ?_))
          · unfold maxLen; omega
          · omega
          · have : (wr.drewN mm).heap.size = wr.heap.size := rfl
            rw [World.size_alloc]; omega
          intro hv' w4 hown' hgrow _
          have hne := fun k (hk : u5.ownBlock = some k) => (HOW.out.lt k hk).1
          have hb4 : Below w2.heap.size w2 w4 := ((below_drewN HB2.out mm).alloc hs2 _).grown hgrow (by simp; exact Nat.le_succ_of_le hs2) hne
          have HOW4 := Lib.hid hown'
          have HB4 := Lib.hid hb4
          clear hown' hgrow hne hb4 howd
          go_wp2
          go_roundg (m - (j + 1))
          case measure => have := HJ.out; omega
          case rel => exact ⟨j + 1, by omega, rfl, val_i64 (by omega), by rw [bools_take HR.out, hans]; exact HOW4.out, HB4.out⟩
        · obtain ⟨A', cap', rfl, hread⟩ := own_reads rfl hold2.own
          have HL := Lib.hid (len_any ps.length A' cap' ps wr rfl (by omega) HOK.out.1 hread)
          clear hown hbel2 hold2 hread
          go_wp2_with fail
          refine HL.out.mono ?_
          rintro e w3 ⟨rfl, hb3⟩
          have HB3 := Lib.hid hb3
          clear hb3
          go_wp2
          go_ret2
          have hjm : q.take j = q := List.take_of_length_le (by have := HM.out; omega)
          have hjl : j = q.length := by have := HM.out; omega
          have ho := own_block HOW.out (fun k hk => HB3.out.block k (HOW.out.lt k hk).2)
          rw [hjm, HPS.out, hjl] at ho
          rw [HPS.out]
          have hss : w.heap.size ≤ w2.heap.size := HB.out.size
          refine ⟨_, rfl, own_base ho (by omega), ?_⟩
          exact (HB.out.trans (HB2.out.mono hss)).trans (HB3.out.mono (Nat.le_trans hss HB2.out.size))
end Go.Proofs.Ytpmlofllkhpihaa.Rs
