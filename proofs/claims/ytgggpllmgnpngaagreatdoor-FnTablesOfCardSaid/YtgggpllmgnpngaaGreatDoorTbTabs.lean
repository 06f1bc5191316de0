/- A loader's tables, listed: walked. -/
import Derived.Test.YtgggpllmgnpngaaGreatDoorTbRaw
import Derived.Shelf.GgSortFunc.Small
import Derived.Ground.GgsProg
import Derived.Sort.LotA
import Derived.Test.YtgggpllmgnpngaaGreatDoorTbColl
import Derived.Lib.RowBridge
namespace Go.Proofs.YtgggpllmgnpngaaGreatDoor.Tb
open Go Go.Shelf

def sl6_ren : Go.Shelf.Ren := ⟨fun | 6 => 48 | 10 => 78 | 11 => 79 | 12 => 80 | 13 => 33 | 14 => 81 | 24 => 61 | 25 => 62 | 26 => 117 | 27 => 118 | 28 => 119 | 29 => 120 | 30 => 121 | 31 => 122 | 32 => 123 | 33 => 124 | 34 => 135 | 35 => 136 | 36 => 137 | 37 => 138 | 38 => 139 | 39 => 143 | n => n, fun | 20 => 20 | 26 => 125 | 35 => 158 | 0 => 0 | 37 => 160 | 3 => 3 | 41 => 90 | 44 => 165 | 49 => 88 | 51 => 139 | 4 => 4 | 54 => 206 | 53 => 205 | 58 => 135 | 5 => 5 | 9 => 9 | 60 => 230 | 64 => 174 | 66 => 235 | 67 => 213 | 17 => 17 | 32 => 155 | 33 => 156 | 82 => 252 | 12 => 12 | 75 => 245 | 76 => 246 | 77 => 247 | 78 => 248 | 79 => 249 | 80 => 250 | n => n, fun | n => n⟩
theorem sl6 : Go.Proofs.LaysGg.n6 Tryz.prog sl6_ren := {
  mixed := by kernel_rfl
  f6 := Tryz.func48.trans (congrArg some (by kernel_rfl))
  f10 := Tryz.func78.trans (congrArg some (by kernel_rfl))
  f11 := Tryz.func79.trans (congrArg some (by kernel_rfl))
  f12 := Tryz.func80.trans (congrArg some (by kernel_rfl))
  f13 := Tryz.func33.trans (congrArg some (by kernel_rfl))
  f14 := Tryz.func81.trans (congrArg some (by kernel_rfl))
  f24 := Tryz.func61.trans (congrArg some (by kernel_rfl))
  f25 := Tryz.func62.trans (congrArg some (by kernel_rfl))
  f26 := Tryz.func117.trans (congrArg some (by kernel_rfl))
  f27 := Tryz.func118.trans (congrArg some (by kernel_rfl))
  f28 := Tryz.func119.trans (congrArg some (by kernel_rfl))
  f29 := Tryz.func120.trans (congrArg some (by kernel_rfl))
  f30 := Tryz.func121.trans (congrArg some (by kernel_rfl))
  f31 := Tryz.func122.trans (congrArg some (by kernel_rfl))
  f32 := Tryz.func123.trans (congrArg some (by kernel_rfl))
  f33 := Tryz.func124.trans (congrArg some (by kernel_rfl))
  f34 := Tryz.func135.trans (congrArg some (by kernel_rfl))
  f35 := Tryz.func136.trans (congrArg some (by kernel_rfl))
  f36 := Tryz.func137.trans (congrArg some (by kernel_rfl))
  f37 := Tryz.func138.trans (congrArg some (by kernel_rfl))
  f38 := Tryz.func139.trans (congrArg some (by kernel_rfl))
  f39 := Tryz.func143.trans (congrArg some (by kernel_rfl))
  t0 := Tryz.underlying0
  a0 := Tryz.isAgg0
  z0 := Tryz.sizeOf0
  v0 := Tryz.zeroValue0
  i0 := by kernel_rfl
  t3 := Tryz.underlying3
  a3 := Tryz.isAgg3
  z3 := Tryz.sizeOf3
  v3 := Tryz.zeroValue3
  i3 := by kernel_rfl
  t4 := Tryz.underlying4
  a4 := Tryz.isAgg4
  z4 := Tryz.sizeOf4
  v4 := Tryz.zeroValue4
  i4 := by kernel_rfl
  t5 := Tryz.underlying5
  a5 := Tryz.isAgg5
  z5 := Tryz.sizeOf5
  v5 := Tryz.zeroValue5
  i5 := by kernel_rfl
  t9 := Tryz.underlying9
  a9 := Tryz.isAgg9
  z9 := Tryz.sizeOf9
  v9 := Tryz.zeroValue9
  i9 := by kernel_rfl
  t12 := Tryz.underlying12
  a12 := Tryz.isAgg12
  z12 := Tryz.sizeOf12
  v12 := Tryz.zeroValue12
  i12 := by kernel_rfl
  t17 := Tryz.underlying17
  a17 := Tryz.isAgg17
  z17 := Tryz.sizeOf17
  v17 := Tryz.zeroValue17
  i17 := by kernel_rfl
  t20 := Tryz.underlying20
  a20 := Tryz.isAgg20
  z20 := Tryz.sizeOf20
  v20 := Tryz.zeroValue20
  i20 := by kernel_rfl
  t26 := Tryz.underlying125
  a26 := Tryz.isAgg125
  z26 := Tryz.sizeOf125
  v26 := Tryz.zeroValue125
  i26 := by kernel_rfl
  t32 := Tryz.underlying155
  a32 := Tryz.isAgg155
  z32 := Tryz.sizeOf155
  v32 := Tryz.zeroValue155
  i32 := by kernel_rfl
  t33 := Tryz.underlying156
  a33 := Tryz.isAgg156
  z33 := Tryz.sizeOf156
  v33 := Tryz.zeroValue156
  i33 := by kernel_rfl
  t35 := Tryz.underlying158
  a35 := Tryz.isAgg158
  z35 := Tryz.sizeOf158
  v35 := Tryz.zeroValue158
  i35 := by kernel_rfl
  t37 := Tryz.underlying160
  a37 := Tryz.isAgg160
  z37 := Tryz.sizeOf160
  v37 := Tryz.zeroValue160
  i37 := by kernel_rfl
  t41 := Tryz.underlying90
  a41 := Tryz.isAgg90
  z41 := Tryz.sizeOf90
  v41 := Tryz.zeroValue90
  i41 := by kernel_rfl
  t44 := Tryz.underlying165
  a44 := Tryz.isAgg165
  z44 := Tryz.sizeOf165
  v44 := Tryz.zeroValue165
  i44 := by kernel_rfl
  t49 := Tryz.underlying88
  a49 := Tryz.isAgg88
  z49 := Tryz.sizeOf88
  v49 := Tryz.zeroValue88
  i49 := by kernel_rfl
  t51 := Tryz.underlying139
  a51 := Tryz.isAgg139
  z51 := Tryz.sizeOf139
  v51 := Tryz.zeroValue139
  i51 := by kernel_rfl
  t53 := Tryz.underlying205
  a53 := Tryz.isAgg205
  z53 := Tryz.sizeOf205
  v53 := Tryz.zeroValue205
  i53 := by kernel_rfl
  t54 := Tryz.underlying206
  a54 := Tryz.isAgg206
  z54 := Tryz.sizeOf206
  v54 := Tryz.zeroValue206
  i54 := by kernel_rfl
  t58 := Tryz.underlying135
  a58 := Tryz.isAgg135
  z58 := Tryz.sizeOf135
  v58 := Tryz.zeroValue135
  i58 := by kernel_rfl
  t60 := Tryz.underlying230
  a60 := Tryz.isAgg230
  z60 := Tryz.sizeOf230
  v60 := Tryz.zeroValue230
  i60 := by kernel_rfl
  t64 := Tryz.underlying174
  a64 := Tryz.isAgg174
  z64 := Tryz.sizeOf174
  v64 := Tryz.zeroValue174
  i64 := by kernel_rfl
  t66 := Tryz.underlying235
  a66 := Tryz.isAgg235
  z66 := Tryz.sizeOf235
  v66 := Tryz.zeroValue235
  i66 := by kernel_rfl
  t67 := Tryz.underlying213
  a67 := Tryz.isAgg213
  z67 := Tryz.sizeOf213
  v67 := Tryz.zeroValue213
  i67 := by kernel_rfl
  t75 := Tryz.underlying245
  a75 := Tryz.isAgg245
  z75 := Tryz.sizeOf245
  v75 := Tryz.zeroValue245
  i75 := by kernel_rfl
  t76 := Tryz.underlying246
  a76 := Tryz.isAgg246
  z76 := Tryz.sizeOf246
  v76 := Tryz.zeroValue246
  i76 := by kernel_rfl
  t77 := Tryz.underlying247
  a77 := Tryz.isAgg247
  z77 := Tryz.sizeOf247
  v77 := Tryz.zeroValue247
  i77 := by kernel_rfl
  t78 := Tryz.underlying248
  a78 := Tryz.isAgg248
  z78 := Tryz.sizeOf248
  v78 := Tryz.zeroValue248
  i78 := by kernel_rfl
  t79 := Tryz.underlying249
  a79 := Tryz.isAgg249
  z79 := Tryz.sizeOf249
  v79 := Tryz.zeroValue249
  i79 := by kernel_rfl
  t80 := Tryz.underlying250
  a80 := Tryz.isAgg250
  z80 := Tryz.sizeOf250
  v80 := Tryz.zeroValue250
  i80 := by kernel_rfl
  t82 := Tryz.underlying252
  a82 := Tryz.isAgg252
  z82 := Tryz.sizeOf252
  v82 := Tryz.zeroValue252
  i82 := by kernel_rfl }
end Go.Proofs.YtgggpllmgnpngaaGreatDoor.Tb

namespace Go.Proofs.YtgggpllmgnpngaaGreatDoor.Tb
open Go Go.RowKit
open Go.Sort hiding Below

def ltTag (x y : Nat) : Bool := decide (tagN x < tagN y)
theorem swo_ltTag : SWO ltTag where
  irrefl x := by simp [ltTag]
  trans x y z h1 h2 := by simp only [ltTag, decide_eq_true_eq] at *; omega
  ntrans x y z h1 h2 := by simp only [ltTag, decide_eq_false_iff_not] at *; omega
theorem tagN_lt_of : ∀ i, i < 8 → ∀ j, j < 8 → i < j → tagN i < tagN j := by decide +kernel
def tagV (i : Nat) : Value := .int .u32 (tagN i : Nat)

theorem eight_sorted {d d' : Array Nat} (h : d.toList.Perm (List.range 8)) (hp : PermIn 0 d.size d d') (hs : SortedIn ltTag 0 d.size d') : d' = (List.range 8).toArray := by
  obtain ⟨hsz, _, hperm⟩ := hp
  have hd8 : d.size = 8 := by have := h.length_eq; simpa using this
  have e1 : d'.extract 0 d.size = d' := by rw [← hsz]; exact Array.extract_size
  rw [e1, Array.extract_size] at hperm
  have hp8 := hperm.trans h
  have key : d'.toList = List.range 8 := by
    refine List.Perm.eq_of_pairwise (le := fun x y => x ≤ y) (fun a b _ _ h1 h2 => Nat.le_antisymm h1 h2) ?_ (by decide) hp8
    rw [List.pairwise_iff_getElem]
    intro i j hi hj hij
    have hi' : i < d'.size := by simpa using hi
    have hj' : j < d'.size := by simpa using hj
    have := hs i j (Nat.zero_le _) hij (by omega)
    rw [getElem!_pos d' i hi', getElem!_pos d' j hj'] at this
    simp only [ltTag, decide_eq_false_iff_not] at this
    have m1 : d'[i] < 8 := List.mem_range.1 (hp8.subset (by simp))
    have m2 : d'[j] < 8 := List.mem_range.1 (hp8.subset (by simp))
    have n1 := tagN_lt_of d'[j] m2 d'[i] m1
    simp only [Array.getElem_toList]
    omega
  rw [← key]

set_option maxHeartbeats 2000000 in
theorem lesstag_any (G Bs n cap : Nat) (W : World) (d : Array Nat) (hs : W.cell? ⟨Bs, 0, none⟩ = some (.slice (some ⟨G, 0, none⟩) n cap)) (hc : ∀ t, t < n → W.cell? ⟨G, t, none⟩ = some (tagV d[t]!)) (i j : Nat) (hi : i < n) (hj : j < n) :
    Calls Tryz.prog 49 #[.int .i64 i, .int .i64 j, .pointer (some ⟨Bs, 0, none⟩)] W fun e w' => e = .returned (.bool (ltTag d[i]! d[j]!)) ∧ ∃ q, w' = W.drewN q := by
  have ci := hc i hi
  have cj := hc j hj
  unfold tagV at ci cj
  unfold ltTag
  generalize (tagN d[i]! : Nat) = x at ci
  generalize (tagN d[j]! : Nat) = y at cj
  clear hc
  go_enter Tryz.func49, Tryz.ntmps49
  go_wp2_with fail
  go_quiet (fail)
  go_wp2_with fail
  go_ret
  exact ⟨by simp, nq, rfl⟩

noncomputable def siT : TypeInfo := (Tryz.prog.info? 86).get (by kernel_rfl)
noncomputable def siE : TypeInfo := (Tryz.prog.info? 89).get (by kernel_rfl)
theorem siK : Lib.swapperK 8 siE 10 = 6 := by kernel_rfl

/-- The row sorted. -/
def Sorted8 (G : Nat) (w : World) (e : Ending) (w' : World) : Prop :=
  e = .returned (.tuple #[]) ∧ ∃ n os, w' = grow (putRow tagV (Sort.ahead w n) G 0 (List.range 8).toArray) os

theorem sorttag_any (G Bs : Nat) (P : List Nat) (w : World) (hP : P.Perm (List.range 8)) (hBs : w.cell? ⟨Bs, 0, none⟩ = some (.slice (some ⟨G, 0, none⟩) 8 8)) (hBG : Bs ≠ G) (hBl : Bs < w.heap.size) (hG : G < w.heap.size)
    (hc : ∀ j x, P[j]? = some x → w.cell? ⟨G, j, none⟩ = some (tagV x)) (hf : ∀ j, w.frozen? ⟨G, j, none⟩ = false) :
    Calls Tryz.prog 48 #[.iface 86 (.slice (some ⟨G, 0, none⟩) 8 8), .func (.func 49) #[] #[.pointer (some ⟨Bs, 0, none⟩)]] w (Sorted8 G w) := by
  have hl : P.length = 8 := by have := hP.length_eq; simpa using this
  have hsz : P.toArray.size = 8 := by simpa using hl
  have hH : Holds tagV w G 0 P.toArray := fun j hj => by
    have hj' : j < P.length := by simpa using hj
    rw [Nat.zero_add]
    refine ⟨hc j _ ?_, hf j⟩
    rw [getElem!_pos P.toArray j hj]
    simp [hj']
  have hless : LessReads Tryz.prog 49 #[.pointer (some ⟨Bs, 0, none⟩)] tagV ltTag G 0 P.toArray.size w := by
    intro m os dk hs i j hi hj
    have e : sortWorld tagV w G 0 m dk os = putRow tagV (grow (Sort.ahead w m) os) G 0 dk := by
      unfold sortWorld; rw [putRow_grow _ (Sort.ahead w m) _ G _ _ hG]
    have hHg : Holds tagV (grow (Sort.ahead w m) os) G 0 P.toArray := holds_grow _ _ _ G 0 _ hG (holds_ahead _ _ _ _ _ _ hH)
    refine lesstag_any G Bs 8 8 _ dk ?_ (fun t ht => ?_) i j (by omega) (by omega)
    · rw [e, cell?_putRow_other _ _ G 0 dk _ (Or.inl hBG), cell?_grow _ _ _ hBl]
      exact hBs
    · rw [e]
      have := cell?_putRow _ _ G 0 P.toArray dk hHg hs t (by omega)
      rwa [Nat.zero_add] at this
  have hS := Any.sort_Slice_small_sorted sl6 86 89 siT siE (by kernel_rfl) (by kernel_rfl) (by kernel_rfl) (by kernel_rfl) 10 (fun _ => by kernel_rfl) (by kernel_rfl) (fun _ => by kernel_rfl) tagV (fun _ => rfl) ltTag swo_ltTag 49 _
    (enters_of Tryz.func49 (by kernel_rfl) rfl) G 0 8 P.toArray (by omega) (by omega) 113 (by rw [hsz, siK]; kernel_rfl) true
    (fun args W => run_callFunc_extern Tryz.func113 (by kernel_rfl) (by kernel_rfl) (by kernel_rfl) (e := Extern.ReflectliteSwapper.swap true) (by kernel_rfl) args W) w hless hH hG
  rw [hsz] at hS
  refine Calls.mono hS ?_
  rintro e w' ⟨rfl, d', n, os, hp, hso, rfl⟩
  rw [← hsz] at hp hso
  rw [eight_sorted (d := P.toArray) (by simpa using hP) hp hso]
  exact ⟨rfl, n, os, rfl⟩

theorem tag_same : ∀ i j, i < 8 → j < 8 → (kTag i).sameKey (kTag j) = decide (i = j) := by
  have h : ∀ i, i < 8 → ∀ j, j < 8 → (kTag i).sameKey (kTag j) = decide (i = j) := by decide +kernel
  exact fun i j hi hj => h i hi j hj

/-- The tags, rising. -/
def Tags8 (w : World) (e : Ending) (w' : World) : Prop :=
  ∃ G, e = .returned (.slice (some ⟨G, 0, none⟩) 8 8) ∧ (∀ i, i < 8 → w'.cell? ⟨G, i, none⟩ = some (tagV i)) ∧ w.heap.size ≤ G ∧ Below w.heap.size w w'

/-- Where the gathering stands. -/
structure Gath (G S M r n : Nat) (D : DataW Value) (P : List Nat) (cnt : Nat) (w W : World) : Prop where
  coll : Coll 89 kTag M r n D P cnt W
  own : W.ownsRow w.heap.size 89 1 (.slice (some ⟨G, 0, none⟩) P.length 8) P.length (P.map tagV)
  cell : W.cell? ⟨S, 0, none⟩ = some (.slice (some ⟨G, 0, none⟩) P.length 8)
  free : W.frozen? ⟨S, 0, none⟩ = false
  low : w.heap.size ≤ G ∧ w.heap.size ≤ S ∧ w.heap.size ≤ r ∧ G ≠ S ∧ M < w.heap.size ∧ S ≠ r ∧ G ≠ r ∧ S < W.heap.size
  below : Below w.heap.size w W

set_option maxRecDepth 100000 in
set_option maxHeartbeats 4000000 in
theorem tables_any (L M n : Nat) (D : DataW Value) (val : Nat → Value) (w : World) (hl1 : w.cell? ⟨L, 1, none⟩ = some (.map (some M))) (hm : w.ownsMap Tryz.prog 89 hv M n D) (hd : MapIs kTag val (down 8) D) :
    Calls Tryz.prog 28 #[.pointer (some ⟨L, 0, none⟩)] w (Tags8 w) := by
  have hlen : ∀ ty, (Builtin.len_ #[121] ty #[.map (some M)]).run Tryz.prog w = .ok (.int .i64 8) w := fun ty => by
    have := hm.len Tryz.underlying121 ty
    rw [hd.size] at this
    exact this
  have hmk : ∀ u, (Instr.makeSlice 86 (.int .i64 0) (.int .i64 8)).run Tryz.prog u = .ok (.slice (some ⟨u.heap.size, 0, none⟩) 0 8) (u.alloc (.cells #[.int .u32 0, .int .u32 0, .int .u32 0, .int .u32 0, .int .u32 0, .int .u32 0, .int .u32 0, .int .u32 0] 89)) := fun u => by kernel_rfl
  have hMl := hm.lt
  have HM := Lib.hid (And.intro hm hd)
  have HML := Lib.hid hMl
  have HL := Lib.hid hl1
  clear hm hd hMl
  go_enter Tryz.func28, Tryz.ntmps28
  go_upto_region 2 with fail
  obtain ⟨w2, hw2⟩ : ∃ w2, w2 = (w.alloc (.cells #[.int .u32 0, .int .u32 0, .int .u32 0, .int .u32 0, .int .u32 0, .int .u32 0, .int .u32 0, .int .u32 0] 89)).alloc (.cells #[.slice (some ⟨w.heap.size, 0, none⟩) 0 8] 86) := ⟨_, rfl⟩
  have hb2 : Below w.heap.size w w2 := by rw [hw2]; exact ((Below.refl _ _).alloc (Nat.le_refl _) _).alloc (by simp) _
  have hs2 : w2.heap.size = w.heap.size + 2 := by rw [hw2]; simp
  have own2 : w2.ownsRow w.heap.size 89 1 (.slice (some ⟨w.heap.size, 0, none⟩) 0 8) 0 [] := by
    rw [hw2]
    exact own_block (World.ownsRow_made w _ 8 (Nat.le_refl _) (by simp [maxLen]) rfl) (fun k hk => by injection hk with hk; subst hk; exact Below.heap_alloc _ _ _ (by simp))
  have hn2 : w2.heap[w.heap.size + 1]? = some (.cells #[.slice (some ⟨w.heap.size, 0, none⟩) 0 8] 86 (0, 0)) := by
    rw [hw2]
    have := heap_alloc_new (w.alloc (.cells #[.int .u32 0, .int .u32 0, .int .u32 0, .int .u32 0, .int .u32 0, .int .u32 0, .int .u32 0, .int .u32 0] 89)) (.cells #[.slice (some ⟨w.heap.size, 0, none⟩) 0 8] 86)
    rwa [World.size_alloc] at this
  rw [← hw2]
  obtain ⟨G, hG⟩ : ∃ G, G = w.heap.size := ⟨_, rfl⟩
  obtain ⟨S, hS⟩ : ∃ S, S = w.heap.size + 1 := ⟨_, rfl⟩
  rw [← hS, ← hG]
  have l1 := below_cell hb2 hl1
  have hown2 : w2.ownsMap Tryz.prog 89 hv M n D := own_map_block HM.out.1 (hb2.block M HML.out)
  have H2 := Lib.hid (And.intro hb2 (And.intro hs2 (And.intro own2 (And.intro hn2 (And.intro hG hS)))))
  clear hb2 hs2 own2 hn2 hG hS hw2 hlen hmk
  go_wp2_with (first | (at_range; refine wpList_range_own _ rfl _ 121 rfl 89 167 (Maps.int_keyed Tryz.underlying89) Tryz.underlying121 hv M n D rfl hown2 ?_; intro w3 hrg0 hg0 hs0) | go_in)
  go_frame
  have h3 : Gath G S M w2.heap.size n D [] (Maps.size D) w w3 := by
    obtain ⟨hb2, hs2, own2, hn2, hG, hS⟩ := H2.out
    have k3 := kept_of_grown hg0
    have hn3 : w3.heap[w.heap.size + 1]? = some (.cells #[.slice (some ⟨w.heap.size, 0, none⟩) 0 8] 86 (0, 0)) := by
      rw [k3.block _ (by omega) (by simp)]; exact hn2
    refine ⟨Coll.start hrg0 HM.out.2 (fun i => mem_down), ?_, ?_, ?_, ⟨by omega, by omega, by omega, by omega, HML.out, by omega, by omega, by omega⟩, Kept.below hb2 k3 (by omega) (fun q hq => by simp)⟩
    · rw [hG]; exact k3.own own2 (fun q hq => by simp)
    · rw [hS, hG, cell_in hn3]; rfl
    · rw [hS]; unfold World.frozen?; simp only [hn3]; rfl
  obtain ⟨r, hr⟩ : ∃ r, r = w2.heap.size := ⟨_, rfl⟩
  rw [← hr] at h3 ⊢
  have H3 := Lib.hid h3
  clear h3 hrg0 hg0 hs0 hown2 hr H2
  go_loopg [] (Maps.size D) (fun gk W => ∃ P cnt, gk = cnt ∧ Gath G S M r n D P cnt w W)
  case atStart => exact ⟨[], Maps.size D, rfl, H3.out⟩
  case round =>
    obtain ⟨P, cnt, hgk, hg⟩ := hrel
    have HG := Lib.hid hg
    have HK := Lib.hid hgk
    have hcoll := hg.coll
    clear hgk hg
    go_wp2_with (first | (at_next; refine wpList_next_coll rfl _ rfl 89 (Maps.int_keyed Tryz.underlying89) (Value.int .u32) kTag tagV (fun key kl hkey => by obtain ⟨x, rfl, _⟩ := Maps.keyOf_int_inv Tryz.underlying89 hkey; exact ⟨x, rfl⟩) (fun i x hi hkx => by obtain ⟨y, e1, e2, _⟩ := Maps.keyOf_int_inv Tryz.underlying89 hkx; injection e1 with _ e1; injection e2 with _ e2; rw [e1, ← e2]; rfl) tag_same M r n cnt D P rfl hcoll ?_ ?_) | go_in)
    · intro hP
      have hl8 : P.length = 8 := by have := hP.length_eq; simpa using this
      have h := HG.out
      have hcell := h.cell
      rw [hl8] at hcell
      obtain ⟨q1, q2, q3, q4, q5, q6, q7, q8⟩ := h.low
      have hGl : G < wr.heap.size := (h.own.lt G rfl).2
      have hsort := sorttag_any G S P wr hP hcell (Ne.symm q4) q8 hGl (fun j x hx => by
        have hj := (List.getElem?_eq_some_iff.1 hx).1
        rw [h.own.cellAt j (by omega)]
        simp [hx]) (fun j => h.own.frozenAt j)
      have HS := Lib.hid hsort
      clear hsort hcoll
      have HQ := Lib.hid (And.intro q1 (And.intro q4 (And.intro q8 hGl)))
      clear h q1 q2 q3 q4 q5 q6 q7 q8 hGl
      go_wp2_with fail
      with_reducible refine HS.out.mono ?_
      rintro e w6 ⟨rfl, m, os, hw6⟩
      have h := HG.out
      obtain ⟨q1, q4, q8, hGl⟩ := HQ.out
      have hH : Holds tagV wr G 0 P.toArray := fun j hj => by
        have hj' : j < P.length := by simpa using hj
        rw [Nat.zero_add]
        refine ⟨?_, h.own.frozenAt j⟩
        rw [getElem!_pos P.toArray j hj, h.own.cellAt j (by omega)]
        simp [hj']
      have hsz : (putRow tagV (Sort.ahead wr m) G 0 (List.range 8).toArray).heap.size = wr.heap.size := by simp [putRow, mapBlock, Sort.ahead]
      have hb6 : Below w.heap.size w w6 := by rw [hw6]; exact below_put h.below h.below.size tagV G m _ os q1
      have hc6 : w6.cell? ⟨S, 0, none⟩ = some (.slice (some ⟨G, 0, none⟩) 8 8) := by
        rw [hw6, cell?_grow _ _ _ (by rw [hsz]; exact q8), cell?_putRow_other _ _ G 0 _ _ (Or.inl (Ne.symm q4))]
        have := h.cell
        rw [hl8] at this
        exact this
      have hr6 : ∀ i, i < 8 → w6.cell? ⟨G, i, none⟩ = some (tagV i) := fun i hi => by
        have := cell?_putRow tagV (Sort.ahead wr m) G 0 P.toArray (List.range 8).toArray (holds_ahead _ _ _ _ _ _ hH) (by simp [hl8]) i (by simpa using hi)
        rw [Nat.zero_add] at this
        rw [hw6, cell?_grow _ _ _ (by rw [hsz]; exact hGl), this]
        rw [getElem!_pos (List.range 8).toArray i (by simpa using hi)]
        simp
      have HF := Lib.hid (And.intro hr6 (And.intro q1 hb6))
      clear hw6 hH hsz hb6 hr6 h q1 q4 q8 hGl HS HQ
      go_wp2_with fail
      go_ret
      exact ⟨G, rfl, HF.out⟩
    · intro i v w4 cnt' hi hiP hcoll4 hlt hg4 hs4 hen
      have h := HG.out
      obtain ⟨q1, q2, q3, q4, q5, q6, q7, q8⟩ := h.low
      have k4 := kept_of_grown hg4
      have own4 := k4.own h.own (fun q hq => by injection hq with hq; subst hq; simpa using q7)
      have cell4 := k4.cell h.cell (by simpa using q6)
      have free4 : w4.frozen? ⟨S, 0, none⟩ = false := by rw [World.frozen?_of_block (k4.block S q8 (by simpa using q6))]; exact h.free
      have hlen := hcoll4.len
      have hlen8 : P.length < 8 := by simp at hlen; omega
      have below4 := Kept.below h.below k4 h.below.size (fun q hq => by simp; omega)
      obtain ⟨i0, hi0, hz0, hz1, hz2⟩ := info_parts (show (Tryz.prog.info? 89).map (fun i => (i.zero, i.size, i.bytes)) = some (some (.int .u32 0), 1, 4) by kernel_rfl)
      have H4 := Lib.hid (And.intro hcoll4 (And.intro own4 (And.intro below4 (And.intro hs4 hlt))))
      have hone : ∀ j u, [tagV i][j]? = some u → (w4.alloc (.cells #[tagV i] 89)).cell? ((⟨w4.heap.size, 0, none⟩ : Addr).add j) = some u := fun j u hj => by
        cases j with
        | zero => injection hj with hj; subst hj; rw [Addr.add_lit, Nat.zero_add, cell_in (heap_alloc_new w4 _)]; rfl
        | succ j => simp at hj
      have HONE := Lib.hid hone
      have HQ := Lib.hid (And.intro q1 (And.intro q2 (And.intro q3 (And.intro q4 (And.intro q5 (And.intro q6 (And.intro q7 q8)))))))
      have hiv : tagV i = .int .u32 (tagN i : Nat) := rfl
      clear h q1 q2 q3 q4 q5 q6 q7 q8 k4 own4 hlen below4 hcoll4 hlt hg4 hs4 hone hcoll
      go_wp2_with (at_builtin; go_must (refine wpList_append_fits _ rfl (.tmp 20) (.tmp 22) 86 rfl w.heap.size 89 i0 1 Tryz.underlying86 hi0 hz1 G P.length 8 (P.map tagV) rfl (H4.out.2.1.alloc _) ⟨w4.heap.size, 0, none⟩ 1 1 [tagV i] rfl rfl HONE.out (by simp [tagV, Value.oneCell']) (by omega) ?_))
      intro w5 own5 hg5
      obtain ⟨q1, q2, q3, q4, q5, q6, q7, q8⟩ := HQ.out
      have k5 := kept_of_grown hg5
      have ka : Below w4.heap.size w4 (w4.alloc (.cells #[tagV i] 89)) := (Below.refl _ _).alloc (Nat.le_refl _) _
      have hs4' := H4.out.2.2.2.1
      have hSG : ¬ some S = some G := fun e => by injection e with e; exact q4 e.symm
      have hS4 : S < w4.heap.size := by omega
      have free5 : w5.frozen? ⟨S, 0, none⟩ = false := by rw [World.frozen?_of_block ((k5.block S (by rw [World.size_alloc]; omega) hSG).trans (ka.block S hS4))]; exact free4
      have cell5 : w5.cell? ⟨S, 0, none⟩ = some (.slice (some ⟨G, 0, none⟩) P.length 8) := k5.cell (below_cell ka cell4) hSG
      have hG6 : Gath G S M r n D (P ++ [i]) cnt' w (w5.setCell ⟨S, 0, none⟩ (.slice (some ⟨G, 0, none⟩) (P.length + 1) 8)) := by
        obtain ⟨c1, c2, c3, c4, c5⟩ := H4.out
        have ks := kept_set w5 S 0 (.slice (some ⟨G, 0, none⟩) (P.length + 1) 8)
        have hb5 : Below w.heap.size w w5 := Kept.below (c3.trans (ka.mono c3.size)) k5 (by rw [World.size_alloc]; have := c3.size; omega) (fun q hq e => by injection e with e; omega)
        have hb6 : Below w.heap.size w (w5.setCell ⟨S, 0, none⟩ (.slice (some ⟨G, 0, none⟩) (P.length + 1) 8)) := hb5.setCell q2 _
        have hsz5 : w4.heap.size + 1 ≤ w5.heap.size := by have := k5.size; rwa [World.size_alloc] at this
        refine ⟨((c1.kept (grown_of_below ka) (by simp) (by simp)).kept hg5 (by simp; omega) (by simp; omega)).kept (row := some S) (grown_of_kept ks) (by simp; omega) (by simp; omega), ?_, ?_, ?_, ⟨q1, q2, q3, q4, q5, q6, q7, by rw [World.size_setCell]; omega⟩, hb6⟩
        · have := own_block own5 (w' := w5.setCell ⟨S, 0, none⟩ (.slice (some ⟨G, 0, none⟩) (P.length + 1) 8)) (fun k hk => by injection hk with hk; subst hk; exact Below.heap_setCell _ _ _ _ q4)
          simpa [tagV] using this
        · simp only [List.length_append, List.length_singleton]
          exact World.cell?_setCell_same _ _ _ cell5
        · rw [World.frozen?_setCell]; exact free5
      have HG6 := Lib.hid hG6
      have HLT := Lib.hid H4.out.2.2.2.2
      clear hG6 own5 hg5 k5 ka hs4' H4 HQ HONE q1 q2 q3 q4 q5 q6 q7 q8
      go_wp2_with fail
      go_roundg cnt'
      case measure => rw [HK.out]; exact HLT.out
      case rel => exact ⟨P ++ [i], cnt', rfl, HG6.out⟩
end Go.Proofs.YtgggpllmgnpngaaGreatDoor.Tb
