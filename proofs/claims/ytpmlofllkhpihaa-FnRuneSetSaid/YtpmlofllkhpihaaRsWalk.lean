/- The law FnRuneSet, walked. -/
import Derived.Test.YtpmlofllkhpihaaRsImpl
import Derived.Test.YtpmlofllkhpihaaZz
import Derived.Maps.OwnSet
import Derived.Maps.Views
import Derived.Maps.Keyed
import Derived.Deep.CutBlock
import Derived.Deep.CutRange
import Derived.Deep.DeepCutAuto
namespace Go.Proofs.Ytpmlofllkhpihaa.Rs
open Go Go.RowKit

def opOf (x : Nat) : Bool × Nat := (x % 3 == 0, x / 3 % 1114112)
def opsTo (xs : List Nat) (k : Nat) : List (Bool × Nat) := (xs.take k).map opOf
def runesTo (ys : List Nat) (k : Nat) : List Nat := (ys.take k).map (· % 1114112)
def opCells (ops : List (Bool × Nat)) : List Value := ops.flatMap fun o => [.bool o.1, .int .i32 (o.2 : Nat)]
def runeCells (q : List Nat) : List Value := q.map fun r => .int .i32 (r : Nat)

theorem opsTo_runes (xs : List Nat) (k : Nat) : Runes (opsTo xs k) := by
  intro o ho
  unfold opsTo at ho
  obtain ⟨x, _, rfl⟩ := List.mem_map.mp ho
  show x / 3 % 1114112 < 1114112
  omega
theorem opsTo_len {xs : List Nat} {k : Nat} (h : k ≤ xs.length) : (opsTo xs k).length = k := by simp [opsTo]; omega
theorem runesTo_len {xs : List Nat} {k : Nat} (h : k ≤ xs.length) : (runesTo xs k).length = k := by simp [runesTo]; omega
theorem opsTo_succ {xs : List Nat} {k x : Nat} (h : xs[k]? = some x) : opsTo xs (k + 1) = opsTo xs k ++ [opOf x] := by
  obtain ⟨hk, hx⟩ := List.getElem?_eq_some_iff.1 h
  unfold opsTo
  rw [List.take_succ_eq_append_getElem hk, List.map_append, hx]
  rfl
theorem runesTo_succ {xs : List Nat} {k x : Nat} (h : xs[k]? = some x) : runesTo xs (k + 1) = runesTo xs k ++ [x % 1114112] := by
  obtain ⟨hk, hx⟩ := List.getElem?_eq_some_iff.1 h
  unfold runesTo
  rw [List.take_succ_eq_append_getElem hk, List.map_append, hx]
  rfl
theorem opCells_snoc (ops : List (Bool × Nat)) (o : Bool × Nat) : opCells (ops ++ [o]) = opCells ops ++ [.bool o.1, .int .i32 (o.2 : Nat)] := by simp [opCells]
theorem opCells_len (ops : List (Bool × Nat)) : (opCells ops).length = ops.length * 2 := by
  induction ops with
  | nil => rfl
  | cons o ops ih =>
    have : opCells (o :: ops) = [.bool o.1, .int .i32 (o.2 : Nat)] ++ opCells ops := by simp [opCells]
    rw [this, List.length_append, ih, List.length_cons]; simp; omega
theorem opCells_get (ops : List (Bool × Nat)) : ∀ (k : Nat) (o : Bool × Nat), ops[k]? = some o → (opCells ops)[k * 2]? = some (.bool o.1) ∧ (opCells ops)[k * 2 + 1]? = some (.int .i32 (o.2 : Nat)) := by
  induction ops with
  | nil => intro k o h; simp at h
  | cons p ops ih =>
    intro k o h
    have e : opCells (p :: ops) = .bool p.1 :: .int .i32 (p.2 : Nat) :: opCells ops := by simp [opCells]
    rw [e]
    cases k with
    | zero => simp at h; subst h; exact ⟨rfl, rfl⟩
    | succ k =>
      have := ih k o (by simpa using h)
      rw [show (k + 1) * 2 = k * 2 + 1 + 1 by omega]
      simpa using this

/-- The set and Go's own map tell the same. -/
structure Agrees (ps : List Page) (D : DataW Unit) : Prop where
  size : Maps.size D = cnt ps
  has : ∀ r, r < 1114112 → Maps.has D (.int .i32 (r : Nat)) = mem ps r
  at_ : ∀ r, r < 1114112 → D.atKey (.int .i32 (r : Nat)) (.lit (.bool false)) = .lit (.bool (mem ps r))

theorem Agrees.start : Agrees (after []) (.map []) := ⟨rfl, fun _ _ => rfl, fun _ _ => rfl⟩

theorem key_ne {a b : Nat} (h : a ≠ b) : (Lit.int .i32 (a : Nat)) ≠ Lit.int .i32 (b : Nat) := by
  intro e
  injection e with _ e
  omega

theorem Agrees.add {ps : List Page} {D : DataW Unit} (h : Agrees ps D) (hg : Good ps) (hr : Rising ps) (hD : Maps.Tidy D) {r : Nat} (hk : WideAt.IsKeyLit (.int .i32 (r : Nat))) (hrr : r < 1114112) :
    Agrees (Rs.add ps r) (D.put (.int .i32 (r : Nat)) (.lit (.bool true))) := by
  refine ⟨?_, fun x hx => ?_, fun x hx => ?_⟩
  · rw [Maps.size_put hD, h.has r hrr, add_cnt hr hg (by omega), h.size]
    cases mem ps r <;> simp
  · rw [add_mem hr hg (by omega)]
    by_cases e : x = r
    · subst e; rw [Maps.has_put_same hD.isMap hk]; simp
    · rw [Maps.has_put_other (key_ne e), h.has x hx]; simp [e]
  · rw [add_mem hr hg (by omega)]
    by_cases e : x = r
    · subst e; rw [Maps.atKey_put_same hD.isMap hk]; simp
    · rw [Maps.atKey_put_other (key_ne e), h.at_ x hx]; simp [e]

theorem Agrees.del {ps : List Page} {D : DataW Unit} (h : Agrees ps D) (hg : Good ps) (hD : Maps.Tidy D) {r : Nat} (hrr : r < 1114112) :
    Agrees (Rs.del ps r) (D.del (.int .i32 (r : Nat))) := by
  refine ⟨?_, fun x hx => ?_, fun x hx => ?_⟩
  · have e1 := Maps.size_del (k := .int .i32 (r : Nat)) hD
    have e2 := del_cnt hg r
    rw [h.has r hrr, h.size] at e1
    cases hm : mem ps r <;> simp [hm] at e1 e2 <;> omega
  · rw [del_mem hg]
    by_cases e : x = r
    · subst e; rw [Maps.has_del_same]; simp
    · rw [Maps.has_del_other (key_ne e), h.has x hx]; simp [e]
  · rw [del_mem hg]
    by_cases e : x = r
    · subst e; rw [Maps.atKey_del_same]; simp
    · rw [Maps.atKey_del_other (key_ne e), h.at_ x hx]; simp [e]

theorem keyed21 : Maps.Keyed Try.prog 21 := Maps.int_keyed (q := .i32) rfl
theorem key21 (r : Nat) (h : r < 1114112) : keyOf Try.prog 21 (.int .i32 (r : Nat)) = some (.int .i32 (r : Nat)) :=
  Maps.keyOf_int_mk (q := .i32) rfl (by simp [Lit.wf, IntKind.min, IntKind.max, IntKind.bits, IntKind.signed]; omega)

theorem info30 : (Try.prog.info? 30).map (fun i => (i.zero, i.size, i.bytes)) = some (some (.agg #[.bool false, .int .i32 0]), 2, 8) := by kernel_rfl
theorem one_op (b : Bool) (r : Nat) : ∀ u ∈ [Value.bool b, .int .i32 (r : Nat)], u.oneCell' = true := by simp [Value.oneCell']

theorem own_drew {w : World} {base n : Nat} {e : TypeId} {size : Nat} {v : Value} {xs : List Value} (h : w.ownsRow base e size v n xs) : w.drew.ownsRow base e size v n xs := h

theorem op_new (w : World) (b : Bool) (r : Nat) : ∀ (j : Nat) (u : Value), [Value.bool b, .int .i32 (r : Nat)][j]? = some u → (w.alloc (.cells #[.bool b, .int .i32 (r : Nat)] 30)).drew.cell? ((⟨w.heap.size, 0, none⟩ : Addr).add j) = some u := by
  intro j u hj
  exact cells_new w [.bool b, .int .i32 (r : Nat)] 30 j u hj

/-- Behind the append of an operation: the map stands, the variable's cells stand. -/
theorem laid_op {w wo w1 : World} {k r : Nat} {ob : Bool} {v : Value} {xs : List Value} {D : DataW Unit} (ho : wo.ownsRow (w.heap.size + 1) 30 2 v k xs) (hm : wo.ownsMap Try.prog 21 (plainElem Try.prog 4) w.heap.size k D) (hb : Below w.heap.size w wo) (hs : w.heap.size + 1 ≤ wo.heap.size)
    (hg : ((wo.alloc (.cells #[.bool ob, .int .i32 (r : Nat)] 30)).alloc (.cells #[.bool ob, .int .i32 (r : Nat)] 30)).drew.grownBy w1 v.ownBlock) :
    (w1.cell? ⟨wo.heap.size, 0, none⟩ = some (.bool ob) ∧ w1.cell? ⟨wo.heap.size, 1, none⟩ = some (.int .i32 (r : Nat))) ∧ w1.ownsMap Try.prog 21 (plainElem Try.prog 4) w.heap.size k D ∧ Below w.heap.size w w1 := by
  have hne : some w.heap.size ≠ v.ownBlock := fun e => by have := (ho.lt _ e.symm).1; omega
  have hne2 : some wo.heap.size ≠ v.ownBlock := fun e => by have := (ho.lt _ e.symm).2; omega
  have hsz : (((wo.alloc (.cells #[.bool ob, .int .i32 (r : Int)] 30)).alloc (.cells #[.bool ob, .int .i32 (r : Int)] 30)).drew).heap.size = wo.heap.size + 2 := by rw [World.size_drew, World.size_alloc, World.size_alloc]
  have hk : w1.heap[wo.heap.size]? = some (.cells #[.bool ob, .int .i32 (r : Nat)] 30 (0, 0)) := by
    rw [hg.block _ (by omega) hne2]
    show ((wo.alloc (.cells #[.bool ob, .int .i32 (r : Int)] 30)).alloc (.cells #[.bool ob, .int .i32 (r : Int)] 30)).heap[wo.heap.size]? = _
    rw [Below.heap_alloc _ _ _ (by rw [World.size_alloc]; omega), heap_alloc_new]
  refine ⟨⟨cell_in hk, cell_in hk⟩, ((hm.alloc _).alloc _).drew.kept hg hne, ?_⟩
  exact (((hb.alloc (by omega) _).alloc (by rw [World.size_alloc]; omega) _).drew).grown hg (by omega) (fun k hk => by have := (ho.lt k hk).1; omega)

theorem next_op {w w1 w2 : World} {k r x : Nat} {ob : Bool} {v : Value} {xs : List Nat} {D : DataW Unit} (hxk : xs[k]? = some x) (hop : opOf x = (ob, r)) (hrr : r < 1114112)
    (ho : w1.ownsRow (w.heap.size + 1) 30 2 v (k + 1) (opCells (opsTo xs k) ++ [.bool ob, .int .i32 (r : Nat)])) (ha : Agrees (after (opsTo xs k)) D)
    (hm : w1.ownsMap Try.prog 21 (plainElem Try.prog 4) w.heap.size k D) (hb : Below w.heap.size w w1)
    (hm2 : w2.ownsMap Try.prog 21 (plainElem Try.prog 4) w.heap.size (k + 1) (if ob then D.del (.int .i32 (r : Nat)) else D.put (.int .i32 (r : Nat)) (.lit (.bool true)))) (ht : w1.mapTurned w2 w.heap.size) :
    w2.ownsRow (w.heap.size + 1) 30 2 v (k + 1) (opCells (opsTo xs (k + 1))) ∧ (∃ D, w2.ownsMap Try.prog 21 (plainElem Try.prog 4) w.heap.size (k + 1) D ∧ Agrees (after (opsTo xs (k + 1))) D) ∧ Below w.heap.size w w2 := by
  have hok := after_ok (opsTo xs k) (opsTo_runes xs k) (opsTo xs k).length
  rw [List.take_length] at hok
  rw [opsTo_succ hxk, hop, opCells_snoc, after_snoc]
  refine ⟨ho.kept ht.grown ?_, ⟨_, hm2, ?_⟩, hb.grown ht.grown hb.size (fun k hk => by have := Option.some.inj hk; omega)⟩
  · cases hv : v.ownBlock with
    | none => exact .inl rfl
    | some q => exact .inr (fun e => by have := Option.some.inj e; have := (ho.lt q hv).1; omega)
  · cases ob with
    | true => exact ha.del hok.1 (hm.tidy keyed21) hrr
    | false => exact ha.add hok.1 hok.2.1 (hm.tidy keyed21) (keyed21.key (key21 r hrr)) hrr

def ReadsU (w : World) (A : Option Addr) (xs : List Nat) : Prop :=
  0 < xs.length → ∃ b off, A = some ⟨b, off, none⟩ ∧ ∀ j x, xs[j]? = some x → w.cell? ⟨b, off + j, none⟩ = some (.int .u32 (x : Nat))

theorem runesTo_lt (ys : List Nat) (j : Nat) : ∀ r ∈ runesTo ys j, r < 1114112 := by
  intro r hr
  unfold runesTo at hr
  obtain ⟨y, _, rfl⟩ := List.mem_map.mp hr
  show y % 1114112 < 1114112
  omega
theorem map_block {w w' : World} {b n : Nat} {D : DataW Unit} (h : w.ownsMap Try.prog 21 (plainElem Try.prog 4) b n D) (hk : w'.heap[b]? = w.heap[b]?) : w'.ownsMap Try.prog 21 (plainElem Try.prog 4) b n D := by
  obtain ⟨es, clock, hb, hrest⟩ := h
  exact ⟨es, clock, hk.trans hb, hrest⟩
theorem own_ops {w : World} {base n : Nat} {v : Value} {ops : List (Bool × Nat)} (hn : ops.length = n) (h : w.ownsRow base 30 2 v n (opCells ops)) : ∃ A cap, v = .slice A n cap ∧ ReadsOps w A ops := by
  rcases h.2 with ⟨rfl, rfl⟩ | ⟨g, cap, cur, rfl, _⟩
  · exact ⟨none, 0, rfl, fun h0 => by omega⟩
  · refine ⟨_, cap, rfl, fun _ => ⟨g, rfl, fun k o ho => ?_⟩⟩
    have hk : k < ops.length := (List.getElem?_eq_some_iff.1 ho).1
    have := opCells_get ops k o ho
    exact ⟨(h.cellAt (k * 2) (by omega)).trans this.1, (h.cellAt (k * 2 + 1) (by omega)).trans this.2⟩
theorem own_runes9 {w : World} {base n : Nat} {v : Value} {q : List Nat} (hn : q.length = n) (h : w.ownsRow base 21 1 v n (runeCells q)) : ∃ A cap, v = .slice A n cap ∧ ReadsRunes w A q := by
  rcases h.2 with ⟨rfl, rfl⟩ | ⟨g, cap, cur, rfl, _⟩
  · exact ⟨none, 0, rfl, fun h0 => by omega⟩
  · refine ⟨_, cap, rfl, fun _ => ⟨g, rfl, fun k r hr => ?_⟩⟩
    have hk : k < q.length := (List.getElem?_eq_some_iff.1 hr).1
    rw [h.cellAt k (by omega)]
    unfold runeCells
    rw [List.getElem?_map, hr]
    rfl
def ReadsBools (w : World) (A : Option Addr) (ps : List Page) (q : List Nat) : Prop :=
  0 < q.length → ∃ g, A = some ⟨g, 0, none⟩ ∧ ∀ k r, q[k]? = some r → w.cell? ⟨g, k, none⟩ = some (.bool (mem ps r))
theorem own_bools {w : World} {base n : Nat} {v : Value} {ps : List Page} {q : List Nat} (hn : q.length = n) (h : w.ownsRow base 4 1 v n (boolsOf ps q)) : ∃ A cap, v = .slice A n cap ∧ ReadsBools w A ps q := by
  rcases h.2 with ⟨rfl, rfl⟩ | ⟨g, cap, cur, rfl, _⟩
  · exact ⟨none, 0, rfl, fun h0 => by omega⟩
  · refine ⟨_, cap, rfl, fun _ => ⟨g, rfl, fun k r hr => ?_⟩⟩
    have hk : k < q.length := (List.getElem?_eq_some_iff.1 hr).1
    rw [h.cellAt k (by omega)]
    unfold boolsOf
    rw [List.getElem?_map, hr]
    rfl

theorem look_bool {w : World} {b n r : Nat} {D : DataW Unit} {x : Bool} (h : w.ownsMap Try.prog 21 (plainElem Try.prog 4) b n D) (hr : r < 1114112) (hat : D.atKey (.int .i32 (r : Nat)) (.lit (.bool false)) = .lit (.bool x)) :
    (Instr.lookup 26 (.map (some b)) (.int .i32 (r : Nat)) false).run Try.prog w = .ok (.bool x) w := by
  obtain ⟨v, zs, hrun, hv⟩ := h.lookup keyed21 Try.underlying26 (z := .bool false) (by rfl) (plainElem_bool rfl false) (key21 r hr)
  rw [hat] at hv
  have he : Try.prog.underlying 4 = some .bool := rfl
  have : v = .bool x := by
    cases v <;> simp [plainElem, he] at hv
    rw [hv.1]
  rw [← this]
  exact hrun

theorem drew_drew {w w' : World} (h : Drew w w') : Drew w w'.drew := by
  obtain ⟨k, rfl⟩ := h
  exact ⟨k + 1, rfl⟩
theorem one_reads (w : World) : ReadsOps (w.alloc (.cells #[.bool false, .int .i32 97] 30)) (some ⟨w.heap.size, 0, none⟩) [(false, 97)] := by
  intro _
  refine ⟨w.heap.size, rfl, fun k o hk => ?_⟩
  match k, hk with
  | 0, hk =>
    simp at hk
    subst hk
    have := cells_new w [.bool false, .int .i32 97] 30
    exact ⟨this 0 _ rfl, this 1 _ rfl⟩

set_option maxHeartbeats 4000000 in
theorem law_any (n m : Nat) (A A2 : Option Addr) (cap cap2 : Nat) (xs ys : List Nat) (w : World) (hn : xs.length = n) (hm : ys.length = m) (hnl : n ≤ 2147483647) (hml : m ≤ 2147483647)
    (hx : ∀ x ∈ xs, x < 4294967296) (hy : ∀ x ∈ ys, x < 4294967296) (h1 : ReadsU w A xs) (h2 : ReadsU w A2 ys) :
    Calls Try.prog 4 #[.slice A n cap, .slice A2 m cap2] w fun e w' => e = .returned (.bool true) ∧ Below w.heap.size w w' := by
  have HN := Lib.hid hn
  have HM := Lib.hid hm
  have HX := Lib.hid hx
  have HY := Lib.hid hy
  have H1 := Lib.hid h1
  have H2 := Lib.hid h2
  clear hn hm hx hy h1 h2
  have t1 : ¬ (2147483647 : Int) < n := by omega
  have t2 : ¬ (2147483647 : Int) < m := by omega
  obtain ⟨i0, hi, hz0, hz1, hz2⟩ := info_parts info30
  have hmm := @run_makeMap Try.prog
  go_enter Try.func4, Try.ntmps4
  go_upto_block 0 with fail
  go_cut [7, 6, 8] (fun iv lv xv W => ∃ k : Nat, k ≤ n ∧ k ≤ 60 ∧ W.ownsRow (w.heap.size + 1) 30 2 lv k (opCells (opsTo xs k)) ∧
    (∃ D, W.ownsMap Try.prog 21 (plainElem Try.prog 4) w.heap.size k D ∧ Agrees (after (opsTo xs k)) D) ∧ Below w.heap.size w W)
  case rest =>
    obtain ⟨k, hk, hk60, hown, ⟨D, hmap, hagr⟩, hbel⟩ := hcut
    obtain ⟨wa, rfl⟩ : ∃ wa : World, wa = wc := ⟨_, rfl⟩
    have HO := Lib.hid hown
    have HMp := Lib.hid hmap
    have HA := Lib.hid hagr
    have HB := Lib.hid hbel
    clear hown hmap hagr hbel hi hz0 hz1 hz2 hmm H1 HX
    clear i0
    obtain ⟨i0, hi, hz0, hz1, hz2⟩ := info_parts info21
    go_upto_block 2 with fail
    go_cut [10, 9] (fun iv lv W => ∃ j : Nat, j ≤ m ∧ j ≤ 20 ∧ W.ownsRow wa.heap.size 21 1 lv j (runeCells (runesTo ys j)) ∧ Below wa.heap.size wa W)
    case rest =>
      obtain ⟨j, hj, hj20, hown2, hbel2⟩ := hcut
      have hkl : (opsTo xs k).length = k := opsTo_len (by have := HN.out; omega)
      have hjl : (runesTo ys j).length = j := runesTo_len (by have := HM.out; omega)
      obtain ⟨A6, cap6, rfl, hr6⟩ := own_ops hkl (own_block HO.out (fun q hq => hbel2.block q (HO.out.lt q hq).2))
      obtain ⟨A9, cap9, rfl, hr9⟩ := own_runes9 hjl hown2
      have hmap2 := map_block HMp.out (hbel2.block _ HMp.out.lt)
      have hqs : ∀ r ∈ runesTo ys j, r < 1114112 := runesTo_lt ys j
      have HC := Lib.hid (impl_any k j A6 A9 cap6 cap9 (opsTo xs k) (runesTo ys j) wc hkl hjl hk60 hj20 (opsTo_runes xs k) hqs hr6 hr9)
      obtain ⟨q, hq⟩ : ∃ q, q = runesTo ys j := ⟨_, rfl⟩
      obtain ⟨ps, hps⟩ : ∃ ps, ps = after (opsTo xs k) := ⟨_, rfl⟩
      have hagr := HA.out
      unfold Answered at HC
      rw [← hps] at hagr HC
      rw [← hq] at HC hqs hjl hr9
      have hsize := hagr.size
      have HB3 := Lib.hid (HB.out.trans (hbel2.mono HB.out.size))
      have HM2 := Lib.hid hmap2
      have HAG := Lib.hid hagr
      have HQ := Lib.hid hqs
      have HJL := Lib.hid hjl
      have HR9 := Lib.hid hr9
      clear hown2 hbel2 hkl hr6 hq hps hagr hmap2 hqs hjl hr9 HO HMp HA HB hi hz0 hz1 hz2
      go_wp2_with fail
      refine HC.out.mono ?_
      rintro e w5 ⟨hv, rfl, hrow, hbel5⟩
      rw [HJL.out] at hrow
      obtain ⟨A12, cap12, rfl, hr12⟩ := own_bools HJL.out hrow
      have hm5 := map_block HM2.out (hbel5.block _ HM2.out.lt)
      have HM5 := Lib.hid hm5
      have HR12 := Lib.hid hr12
      have HB5 := Lib.hid hbel5
      have HSZ := Lib.hid hsize
      obtain ⟨c, hc⟩ : ∃ c, c = cnt ps := ⟨_, rfl⟩
      rw [← hc] at hsize ⊢
      have HCN := Lib.hid hc
      clear hrow hbel5 hm5 hr12 HSZ hc
      go_wp2_with (at_len; refine wpList_len_own _ rfl (.tmp 88) 26 rfl 21 4 Try.underlying26 _ w.heap.size k D rfl HM5.out ?_; rw [hsize])
      go_loopg [100] (j) (fun gk iv W => ∃ i : Nat, i ≤ j ∧ gk = j - i ∧ iv = .int .i64 i ∧ Drew w5 W)
      case atStart => exact ⟨0, Nat.zero_le _, rfl, rfl, 0, rfl⟩
      case round =>
        obtain ⟨i, hi, hgi, rfl, hdr⟩ := hrel
        have HI := Lib.hid hgi
        have HD := Lib.hid hdr
        clear hgi
        have hsame : wr.heap = w5.heap := by obtain ⟨nq, rfl⟩ := hdr; rfl
        by_cases hlt : i < j
        · obtain ⟨g9, rfl, hc9⟩ := HR9.out (by have := HJL.out; omega)
          obtain ⟨g12, rfl, hc12⟩ := HR12.out (by have := HJL.out; omega)
          obtain ⟨r, hr⟩ : ∃ r, q[i]? = some r := ⟨_, List.getElem?_eq_getElem (by have := HJL.out; omega)⟩
          have c9 := hc9 i r hr
          have d9 : wr.cell? ⟨g9, i, none⟩ = some (.int .i32 (r : Nat)) := by
            refine (World.cell?_of_block (w := w5) (by rw [hsame])).trans ?_
            rw [← c9]; exact HB5.out.cell (World.block_lt_of_cell? _ _ c9)
          have d12 : wr.cell? ⟨g12, i, none⟩ = some (.bool (mem ps r)) := (World.cell?_of_block (w := w5) (by rw [hsame])).trans (hc12 i r hr)
          have hrr := HQ.out r (List.mem_of_getElem? hr)
          have hlook := look_bool (map_block HM5.out (w' := wr.drew) (by show wr.heap[_]? = _; rw [hsame])) hrr (HAG.out.at_ r hrr)
          obtain ⟨mm, hmm⟩ : ∃ mm, mm = mem ps r := ⟨_, rfl⟩
          rw [← hmm] at d12 hlook
          clear hmm c9 hc9 hc12 hr hrr hdr hsame
          go_wp2
          go_region
          go_wp2
          go_roundg (j - (i + 1))
          case measure => have := HI.out; omega
          case rel => exact ⟨i + 1, by omega, rfl, val_i64 (by omega), drew_drew HD.out⟩
        · have hcell := one_reads wr
          have HC2 := Lib.hid (impl_any 1 0 (some ⟨wr.heap.size, 0, none⟩) none 1 0 [(false, 97)] [] (wr.alloc (.cells #[.bool false, .int .i32 97] 30)) rfl rfl (by omega) (by omega) (by intro o ho; simp at ho; subst ho; decide) (by simp) hcell (fun h => by simp at h))
          have hb6 : Below w.heap.size w wr := by
            obtain ⟨nq, rfl⟩ := HD.out
            exact below_drewN (HB3.out.trans (HB5.out.mono HB3.out.size)) nq
          have HB6 := Lib.hid hb6
          clear hdr hsame hcell hb6
          go_wp2_with fail
          refine HC2.out.mono ?_
          rintro e w7 ⟨hv, rfl, _, hb7⟩
          have h1 : cnt (after [(false, 97)]) = 1 := by decide +kernel
          rw [h1]
          have HB7 := Lib.hid hb7
          clear hb7
          go_wp2
          go_ret
          have hs6 := HB6.out.size
          exact ⟨rfl, (HB6.out.alloc hs6 _).trans (HB7.out.mono (by rw [World.size_alloc]; omega))⟩
    go_wp2_with fail
    go_loopg [10, 9] (m) (fun gk iv lv W => ∃ j : Nat, j ≤ m ∧ j ≤ 20 ∧ gk = m - j ∧ iv = .int .i64 j ∧ W.ownsRow wa.heap.size 21 1 lv j (runeCells (runesTo ys j)) ∧ Below wa.heap.size wa W)
    case atStart => exact ⟨0, Nat.zero_le _, Nat.zero_le _, rfl, rfl, World.ownsRow_nil _ _ _ _, Below.refl _ _⟩
    case round =>
      obtain ⟨j, hj, hj20, hgj, rfl, hown2, hbel2⟩ := hrel
      have HJ := Lib.hid hgj
      have HO2 := Lib.hid hown2
      have HB2 := Lib.hid hbel2
      clear hgj
      by_cases hlt : j < m ∧ j < 20
      · obtain ⟨hlt, hlt20⟩ := hlt
        have hlt20' : (j : Int) < 20 := by omega
        obtain ⟨b, off, rfl, hcells⟩ := H2.out (by have := HM.out; omega)
        obtain ⟨y, hyj⟩ : ∃ y, ys[j]? = some y := ⟨_, List.getElem?_eq_getElem (by have := HM.out; omega)⟩
        have c0 := hcells j y hyj
        have d0 : wr.cell? ⟨b, off + j, none⟩ = some (.int .u32 (y : Nat)) := by
          have hb0 : b < w.heap.size := World.block_lt_of_cell? w _ c0
          have hs0 := HB.out.size
          rw [← c0, hbel2.cell (by show b < _; omega)]
          exact HB.out.cell hb0
        have hy32 := HY.out y (List.mem_of_getElem? hyj)
        obtain ⟨r, hr⟩ : ∃ r : Nat, (y : Int) % 1114112 = r := ⟨y % 1114112, by omega⟩
        have hrn : y % 1114112 = r := by omega
        have hrr : r < 1114112 := by omega
        have hsz := hbel2.size
        have hsuc := runesTo_succ hyj
        rw [hrn] at hsuc
        have HSUC := Lib.hid hsuc
        clear hcells c0 hown2 hbel2 hyj hrn hsuc
        go_wp2_with (at_builtin; go_must (refine wpList_append_own _ rfl (.tmp 72) (.tmp 79) 31 rfl (wa.heap.size) 21 i0 _ 1 4 Try.underlying31 hi hz0 hz1 hz2 rfl (by decide) _ _ _ rfl (HO2.out.alloc _) ⟨wr.heap.size, 0, none⟩ 1 1 [.int .i32 r] rfl rfl (cell_one_new _ _ _) (ints_oneCell .i32 [(r : Int)]) ?_ ?_ ?_ ?_))
        · unfold maxLen; omega
        · omega
        · rw [World.size_alloc]; omega
        intro v' w1 hown' hgrow _
        have R2 : w1.ownsRow wa.heap.size 21 1 v' (j + 1) (runeCells (runesTo ys (j + 1))) ∧ Below wa.heap.size wa w1 := by
          rw [HSUC.out]
          refine ⟨by unfold runeCells at hown' ⊢; rw [List.map_append]; exact hown', (HB2.out.alloc hsz _).grown hgrow (by rw [World.size_alloc]; omega) (fun k hk => (HO2.out.lt k hk).1)⟩
        have HR2 := Lib.hid R2
        clear R2 hown' hgrow
        go_wp2
        go_roundg (m - (j + 1))
        case measure => have := HJ.out; omega
        case rel => exact ⟨j + 1, by omega, by omega, rfl, val_i64 (by omega), HR2.out.1, HR2.out.2⟩
      · have hcases : (j < m ∧ ¬ j < 20) ∨ ¬ j < m := by omega
        clear hlt hown2 hbel2
        rcases hcases with ⟨hlt, h20⟩ | hlt
        · obtain rfl : j = 20 := by omega
          go_wp2_with fail
          go_meet
          case rel => exact ⟨20, hj, by omega, HO2.out, HB2.out⟩
        · go_wp2_with fail
          go_meet
          case rel => exact ⟨j, hj, hj20, HO2.out, HB2.out⟩
  go_wp2_with fail
  go_loopg [7, 6] (n) (fun gk iv lv W => ∃ k : Nat, k ≤ n ∧ k ≤ 60 ∧ gk = n - k ∧ iv = .int .i64 k ∧ W.ownsRow (w.heap.size + 1) 30 2 lv k (opCells (opsTo xs k)) ∧
    (∃ D, W.ownsMap Try.prog 21 (plainElem Try.prog 4) w.heap.size k D ∧ Agrees (after (opsTo xs k)) D) ∧ Below w.heap.size w W)
  case atStart =>
    refine ⟨0, Nat.zero_le _, Nat.zero_le _, rfl, rfl, World.ownsRow_nil _ _ _ _, ⟨_, World.ownsMap_made .., Agrees.start⟩, (Below.refl _ _).alloc (Nat.le_refl _) _⟩
  case round =>
    obtain ⟨k, hk, hk60, hgk, rfl, hown, ⟨D, hmap, hagr⟩, hbel⟩ := hrel
    have HK := Lib.hid hgk
    clear hgk
    have hsz1 : w.heap.size + 1 ≤ wr.heap.size := hmap.lt
    by_cases hlt : k < n ∧ k < 60
    · obtain ⟨hlt, hlt60⟩ := hlt
      have hlt60' : (k : Int) < 60 := by omega
      obtain ⟨b, off, rfl, hcells⟩ := H1.out (by have := HN.out; omega)
      obtain ⟨x, hxk⟩ : ∃ x, xs[k]? = some x := ⟨_, List.getElem?_eq_getElem (by have := HN.out; omega)⟩
      have c0 := hcells k x hxk
      have d0 : wr.cell? ⟨b, off + k, none⟩ = some (.int .u32 (x : Nat)) := by
        rw [← c0]; exact hbel.cell (World.block_lt_of_cell? w _ c0)
      have hx32 := HX.out x (List.mem_of_getElem? hxk)
      have hbs : b < wr.heap.size := World.block_lt_of_cell? wr _ d0
      obtain ⟨wo, rfl⟩ : ∃ wo : World, wo = wr := ⟨_, rfl⟩
      clear hcells c0
      have HO := Lib.hid hown
      have HMp := Lib.hid hmap
      have HA := Lib.hid hagr
      have HB := Lib.hid hbel
      have HB1 := Lib.hid (Nat.le_of_lt_succ (Nat.lt_succ_of_le hsz1))
      have HXK := Lib.hid hxk
      clear hown hmap hagr hbel hxk
      obtain ⟨ob, hob⟩ : ∃ ob, ((x : Int) % 3 == 0) = ob := ⟨_, rfl⟩
      obtain ⟨r, hr⟩ : ∃ r : Nat, (x : Int) / 3 % 1114112 = r := ⟨x / 3 % 1114112, by omega⟩
      have hrr : r < 1114112 := by omega
      have hop : opOf x = (ob, r) := by
        unfold opOf
        rw [← hob]
        refine Prod.ext ?_ (by show x / 3 % 1114112 = r; omega)
        show (x % 3 == 0) = ((x : Int) % 3 == 0)
        rw [Bool.eq_iff_iff]
        simp only [beq_iff_eq]
        omega
      have HOP := Lib.hid hop
      have HRR := Lib.hid hrr
      clear hop hrr
      go_wp2
      go_region
      clear hr hob d0 hbs hx32
      have hs0 : w.heap.size + 1 ≤ wo.heap.size := HB1.out
      go_wp2_with (at_builtin; go_must (refine wpList_append_own _ rfl (.tmp 50) (.tmp 52) 27 rfl (w.heap.size + 1) 30 i0 _ 2 8 Try.underlying27 hi hz0 hz1 hz2 rfl (by decide) _ _ _ rfl (own_drew ((HO.out.alloc _).alloc _)) ⟨wo.heap.size + 1, 0, none⟩ 1 1 [.bool ob, .int .i32 r] rfl rfl ?_ (one_op _ _) ?_ ?_ ?_ ?_))
      · have := op_new (wo.alloc (.cells #[.bool ob, .int .i32 r] 30)) ob r
        rwa [World.size_alloc] at this
      · unfold maxLen; omega
      · omega
      · have : (((wo.alloc (.cells #[.bool ob, .int .i32 (r : Int)] 30)).alloc (.cells #[.bool ob, .int .i32 (r : Int)] 30)).drew).heap.size = wo.heap.size + 2 := by rw [World.size_drew, World.size_alloc, World.size_alloc]
        omega
      intro v' w1 hown' hgrow _
      have R := laid_op HO.out HMp.out HB.out hs0 hgrow
      have HR := Lib.hid R.2
      obtain ⟨hc0, hc1⟩ := R.1
      have HO' := Lib.hid hown'
      clear R hown' hgrow
      cases ob with
      | true =>
        go_wp2_with (at_delete; go_must (refine wpList_delete_own _ rfl _ _ 26 21 rfl 4 keyed21 Try.underlying26 _ w.heap.size k D rfl HR.out.1 _ _ rfl (key21 r HRR.out) ?_))
        intro w2 hm2 hturn
        have R2 := next_op (ob := true) HXK.out HOP.out HRR.out HO'.out HA.out HR.out.1 HR.out.2 (hm2.mono (Nat.le_succ k)) hturn
        have HR2 := Lib.hid R2
        clear R2 hm2 hturn
        go_wp2
        go_roundg (n - (k + 1))
        case measure => have := HK.out; omega
        case rel => exact ⟨k + 1, by omega, by omega, rfl, val_i64 (by omega), HR2.out.1, HR2.out.2.1, HR2.out.2.2⟩
      | false =>
        go_wp2_with (at_mapUpdate; go_must (refine wpList_mapUpdate_in _ rfl _ _ _ 26 rfl 21 4 keyed21 Try.underlying26 _ w.heap.size k D rfl HR.out.1 (by unfold maxLen; omega) _ _ _ rfl rfl (key21 r HRR.out) (.lit (.bool true)) [] (plainElem_bool rfl _) ?_))
        intro w2 hm2 hturn
        have R2 := next_op (ob := false) HXK.out HOP.out HRR.out HO'.out HA.out HR.out.1 HR.out.2 (hm2) hturn
        have HR2 := Lib.hid R2
        clear R2 hm2 hturn
        go_wp2
        go_roundg (n - (k + 1))
        case measure => have := HK.out; omega
        case rel => exact ⟨k + 1, by omega, by omega, rfl, val_i64 (by omega), HR2.out.1, HR2.out.2.1, HR2.out.2.2⟩
    · have hcases : (k < n ∧ ¬ k < 60) ∨ ¬ k < n := by omega
      have HO := Lib.hid hown
      have HMp := Lib.hid hmap
      have HA := Lib.hid hagr
      have HB := Lib.hid hbel
      clear hlt hown hmap hagr hbel
      rcases hcases with ⟨hlt, h60⟩ | hlt
      · obtain rfl : k = 60 := by omega
        go_wp2_with fail
        go_meet
        case rel => exact ⟨60, hk, by omega, HO.out, ⟨D, HMp.out, HA.out⟩, HB.out⟩
      · go_wp2_with fail
        go_meet
        case rel => exact ⟨k, hk, hk60, HO.out, ⟨D, HMp.out, HA.out⟩, HB.out⟩
end Go.Proofs.Ytpmlofllkhpihaa.Rs
