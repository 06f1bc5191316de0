/- A file's tables, listed, and one of them: walked. -/
import Derived.Test.YtgggpllmgnpngaaGreatDoorTbTabs
namespace Go.Proofs.YtgggpllmgnpngaaGreatDoor.Tb
open Go Go.RowKit

set_option maxHeartbeats 2000000 in
theorem tagof_any (a b c d : UInt8) (w : World) :
    Calls Tryz.prog 29 #[.string ⟨#[a, b, c, d]⟩] w fun e w' => e = .returned (.tuple #[.int .u32 (be4 a.toNat b.toNat c.toNat d.toNat : Nat), .bool true]) ∧ ∃ q, w' = w.drewN q := by
  have HN := Lib.hid (fun W => newtag_any a.toNat b.toNat c.toNat d.toNat W a.toNat_lt b.toNat_lt c.toNat_lt d.toNat_lt)
  go_enter Tryz.func29, Tryz.ntmps29
  go_wp2_with fail
  go_quiet ((go_at_call 50; exact Calls.quiet_of_same ((HN.out _).mono fun _ _ h => ⟨h.1, h.2.symm⟩)))
  go_wp2_with fail
  go_ret2
  exact ⟨rfl, nq, rfl⟩

theorem tagof_tag (i : Nat) (hi : i < 8) (w : World) :
    Calls Tryz.prog 29 #[.string (tag i)] w fun e w' => e = .returned (.tuple #[.int .u32 (tagN i : Nat), .bool true]) ∧ ∃ q, w' = w.drewN q := by
  have h : ∀ i, i < 8 → tag i = ⟨#[(tags.getD i []).getD 0 0, (tags.getD i []).getD 1 0, (tags.getD i []).getD 2 0, (tags.getD i []).getD 3 0]⟩ := by decide +kernel
  rw [h i hi]
  exact tagof_any _ _ _ _ w
end Go.Proofs.YtgggpllmgnpngaaGreatDoor.Tb

namespace Go.Proofs.YtgggpllmgnpngaaGreatDoor.Tb
open Go Go.RowKit

def strT (i : Nat) : Value := .string (tag i)
/-- A file in memory. -/
structure InMem (B N cap : Nat) (bs : List Nat) (w : World) : Prop where
  len : bs.length = N
  byte : ∀ b ∈ bs, b < 256
  cell : ∀ j b, bs[j]? = some b → w.cell? ⟨B, j, none⟩ = some (.int .u8 (b : Nat))
  room : N ≤ cap ∧ cap ≤ 9223372036854775807 ∧ N ≤ 100000
  low : B < w.heap.size

/-- The tags' texts gathered. -/
structure Texts (w : World) (v : Value) (k : Nat) (W : World) : Prop where
  own : W.ownsRow w.heap.size 9 1 v k ((List.range k).map strT)
  below : Below w.heap.size w W

/-- What the look for one table gives. -/
def Got1 (ok : Bool) (Q : Value → World → Prop) (w : World) (e : Ending) (w' : World) : Prop :=
  Below w.heap.size w w' ∧ ((ok = true ∧ ∃ v, e = .returned (.tuple #[v, .nilIface]) ∧ Q v w') ∨ (ok = false ∧ ∃ t a, e = .returned (.tuple #[.slice none 0 0, .iface t a])))

def Asked (w : World) (ok : Bool) (Q : Value → World → Prop) (e : Ending) (w' : World) : Prop :=
  ∃ v x, e = .returned (.tuple #[v, x, .bool ok, .bool true]) ∧ Texts w v 8 w' ∧ (ok = true → Q x w')

theorem conv4 (W : World) (a b c d : UInt8) : (convert 24 9 (.slice (some ⟨W.heap.size, 0, none⟩) 4 4)).run Tryz.prog (W.alloc (.cells #[.int .u8 (a.toNat : Int), .int .u8 (b.toNat : Int), .int .u8 (c.toNat : Int), .int .u8 (d.toNat : Int)] 5)) = .ok (.string ⟨#[a, b, c, d]⟩) (W.alloc (.cells #[.int .u8 (a.toNat : Int), .int .u8 (b.toNat : Int), .int .u8 (c.toNat : Int), .int .u8 (d.toNat : Int)] 5)) := by
  refine run_convert_bytes_back (P := Tryz.prog) _ 24 9 5 ⟨W.heap.size, 0, none⟩ 4 [a, b, c, d] Tryz.underlying24 Tryz.underlying5 Tryz.underlying9 (fun j hj => ?_)
  rw [Addr.add_lit, Nat.zero_add, cell_in (heap_alloc_new W _)]
  match j, hj with
  | 0, _ => rfl
  | 1, _ => rfl
  | 2, _ => rfl
  | 3, _ => rfl

theorem results_tmp4 {fn : Func} {t u v x : Tmp} (h : fn.results = #[.tmp t, .tmp u, .tmp v, .tmp x]) (tmps : Array Value) (P : Program) (w : World) :
    (results fn tmps).run P w = .ok (.tuple #[tmps.getD t undef, tmps.getD u undef, tmps.getD v undef, tmps.getD x undef]) w := by
  simp [results, h]

theorem Texts.more {w W W1 W2 W3 : World} {v v2 : Value} {k : Nat} {x y : Obj} (h : Texts w v k W) (h1 : W1 = (W.alloc x)) (h2 : W2 = W1.alloc y) (hown : W3.ownsRow w.heap.size 9 1 v2 (k + 1) ((List.range k).map strT ++ [strT k])) (hg : W2.grownBy W3 v.ownBlock) : Texts w v2 (k + 1) W3 := by
  have hs := h.below.size
  refine ⟨by rw [List.range_succ, List.map_append]; exact hown, ?_⟩
  have hb2 : Below w.heap.size w W2 := by rw [h2, h1]; exact (h.below.alloc hs _).alloc (by rw [World.size_alloc]; omega) _
  exact Kept.below hb2 (kept_of_grown hg) (by rw [h2, h1]; simp; omega) (fun q hq e => by have := (h.own.lt q e.symm).1; omega)

set_option maxRecDepth 100000 in
set_option maxHeartbeats 8000000 in
theorem impl_any (B N cap : Nat) (bs : List Nat) (at_ ln : Nat → Nat) (w : World) (hd : Dir bs at_ ln) (h : InMem B N cap bs w) (s : ByteArray) (x : Int) (ok : Bool) (Q : Value → World → Prop)
    (hT : ∀ W, Calls Tryz.prog 29 #[.string s] W (fun e w' => e = .returned (.tuple #[.int .u32 x, .bool true]) ∧ ∃ q, w' = W.drewN q))
    (hR : ∀ (R L M : Nat) (w W : World), OtfS R B N cap bs at_ ln w L M 8 W → Calls Tryz.prog 30 #[.pointer (some ⟨L, 0, none⟩), .int .u32 x] W (Got1 ok Q W)) :
    Calls Tryz.prog 6 #[.slice (some ⟨B, 0, none⟩) N cap, .string s] w (Asked w ok Q) := by
  have HRD := Lib.hid (reader_any B N cap bs w h.len h.byte h.cell h.room h.low)
  have HD := Lib.hid hd
  have HRA := Lib.hid hR
  have HLEN := Lib.hid h.len
  have HT := Lib.hid hT
  clear hd h hT hR
  go_enter Tryz.func6, Tryz.ntmps6
  go_wp2_with fail
  with_reducible refine HRD.out.mono ?_
  rintro e w1 ⟨rfl, h1, h2⟩
  have HL := Lib.hid (loader_any _ B N cap bs at_ ln 0 w1 HD.out h1)
  have HB := Lib.hid h2
  clear h1 h2 HRD
  go_wp2_with fail
  with_reducible refine HL.out.mono ?_
  rintro e w2 ⟨L, M, rfl, h1⟩
  obtain ⟨D, val, m1, m2, m3⟩ := h1.map
  have HTB := Lib.hid (tables_any L M 8 D val w2 h1.ld1 m1 m2)
  have H2 := Lib.hid (And.intro h1 (And.intro m1 (And.intro m2 m3)))
  clear h1 m1 m2 m3 HL
  go_wp2_with fail
  with_reducible refine HTB.out.mono ?_
  rintro e w3 ⟨G, rfl, h1, h2, h3⟩
  have HG := Lib.hid (And.intro h1 (And.intro h2 h3))
  clear h1 h2 h3 HTB
  go_wp2_with fail
  obtain ⟨i0, hi0, hz0, hz1, hz2⟩ := info_parts (show (Tryz.prog.info? 9).map (fun i => (i.zero, i.size, i.bytes)) = some (some (.string ⟨#[]⟩), 1, 16) by kernel_rfl)
  have HI := Lib.hid (And.intro hi0 (And.intro hz0 (And.intro hz1 hz2)))
  clear hi0 hz0 hz1 hz2
  go_loopg [4, 30] (8) (fun gk tv iv W => ∃ k : Nat, k ≤ 8 ∧ gk = 8 - k ∧ iv = .int .i64 k ∧ Texts w3 tv k W)
  case atStart => exact ⟨0, by omega, rfl, rfl, World.ownsRow_nil _ _ _ _, Below.refl _ _⟩
  case round =>
    obtain ⟨k, hk, hgk, rfl, ht⟩ := hrel
    have HT1 := Lib.hid ht
    have HK := Lib.hid hgk
    clear hgk ht
    by_cases hlt : k < 8
    · have kk : (k : Int) < 8 := by omega
      have hcell := below_cell (HT1.out.below.mono (Nat.le_refl _)) (HG.out.1 k hlt)
      go_cut [4, 30] (fun tv iv W => iv = .int .i64 ((k + 1 : Nat) : Int) ∧ Texts w3 tv (k + 1) W)
      case first =>
        obtain ⟨hi0, hz0, hz1, hz2⟩ := HI.out
        have hk8 : k = 0 ∨ k = 1 ∨ k = 2 ∨ k = 3 ∨ k = 4 ∨ k = 5 ∨ k = 6 ∨ k = 7 := by omega
        rcases hk8 with rfl | rfl | rfl | rfl | rfl | rfl | rfl | rfl
        · rw [show tagV 0 = .int .u32 1330851634 from rfl] at hcell
          have hcv : (convert 24 9 (.slice (some ⟨wr.heap.size, 0, none⟩) 4 4)).run Tryz.prog (wr.alloc (.cells #[.int .u8 79, .int .u8 83, .int .u8 47, .int .u8 50] 5)) = .ok (.string ⟨#[79, 83, 47, 50]⟩) (wr.alloc (.cells #[.int .u8 79, .int .u8 83, .int .u8 47, .int .u8 50] 5)) := conv4 wr 79 83 47 50
          have hown := HT1.out.own
          have hsz := HT1.out.below.size
          go_wp2_with (at_builtin; go_must (refine wpList_append_own_at _ rfl (.tmp 34) (.tmp 48) 28 rfl w3.heap.size 9 i0 (.string ⟨#[]⟩) 1 16 Tryz.underlying28 hi0 hz0 hz1 hz2 rfl (by decide) _ _ _ rfl ((hown.alloc _).alloc _) ⟨wr.heap.size + 1, 0, none⟩ 1 1 [strT 0] rfl rfl ?_ (by simp [strT, Value.oneCell']) (by unfold maxLen; omega) (by omega) (by simp; omega) ?_))
          · have h := cell_one_new (wr.alloc (.cells #[.int .u8 79, .int .u8 83, .int .u8 47, .int .u8 50] 5)) (strT 0) 9
            rw [World.size_alloc] at h
            exact h
          intro v2 w4 hown2 hg2 _ _
          have hT := Lib.hid (HT1.out.more rfl rfl hown2 hg2)
          clear hown hown2 hg2 hcv hi0 hz0 hz1 hz2
          go_wp2_with fail
          go_meet
          case rel => exact ⟨rfl, hT.out⟩
        · rw [show tagV 1 = .int .u32 1668112752 from rfl] at hcell
          have hcv : (convert 24 9 (.slice (some ⟨wr.heap.size, 0, none⟩) 4 4)).run Tryz.prog (wr.alloc (.cells #[.int .u8 99, .int .u8 109, .int .u8 97, .int .u8 112] 5)) = .ok (.string ⟨#[99, 109, 97, 112]⟩) (wr.alloc (.cells #[.int .u8 99, .int .u8 109, .int .u8 97, .int .u8 112] 5)) := conv4 wr 99 109 97 112
          have hown := HT1.out.own
          have hsz := HT1.out.below.size
          go_wp2_with (at_builtin; go_must (refine wpList_append_own_at _ rfl (.tmp 34) (.tmp 48) 28 rfl w3.heap.size 9 i0 (.string ⟨#[]⟩) 1 16 Tryz.underlying28 hi0 hz0 hz1 hz2 rfl (by decide) _ _ _ rfl ((hown.alloc _).alloc _) ⟨wr.heap.size + 1, 0, none⟩ 1 1 [strT 1] rfl rfl ?_ (by simp [strT, Value.oneCell']) (by unfold maxLen; omega) (by omega) (by simp; omega) ?_))
          · have h := cell_one_new (wr.alloc (.cells #[.int .u8 99, .int .u8 109, .int .u8 97, .int .u8 112] 5)) (strT 1) 9
            rw [World.size_alloc] at h
            exact h
          intro v2 w4 hown2 hg2 _ _
          have hT := Lib.hid (HT1.out.more rfl rfl hown2 hg2)
          clear hown hown2 hg2 hcv hi0 hz0 hz1 hz2
          go_wp2_with fail
          go_meet
          case rel => exact ⟨rfl, hT.out⟩
        · rw [show tagV 2 = .int .u32 1751474532 from rfl] at hcell
          have hcv : (convert 24 9 (.slice (some ⟨wr.heap.size, 0, none⟩) 4 4)).run Tryz.prog (wr.alloc (.cells #[.int .u8 104, .int .u8 101, .int .u8 97, .int .u8 100] 5)) = .ok (.string ⟨#[104, 101, 97, 100]⟩) (wr.alloc (.cells #[.int .u8 104, .int .u8 101, .int .u8 97, .int .u8 100] 5)) := conv4 wr 104 101 97 100
          have hown := HT1.out.own
          have hsz := HT1.out.below.size
          go_wp2_with (at_builtin; go_must (refine wpList_append_own_at _ rfl (.tmp 34) (.tmp 48) 28 rfl w3.heap.size 9 i0 (.string ⟨#[]⟩) 1 16 Tryz.underlying28 hi0 hz0 hz1 hz2 rfl (by decide) _ _ _ rfl ((hown.alloc _).alloc _) ⟨wr.heap.size + 1, 0, none⟩ 1 1 [strT 2] rfl rfl ?_ (by simp [strT, Value.oneCell']) (by unfold maxLen; omega) (by omega) (by simp; omega) ?_))
          · have h := cell_one_new (wr.alloc (.cells #[.int .u8 104, .int .u8 101, .int .u8 97, .int .u8 100] 5)) (strT 2) 9
            rw [World.size_alloc] at h
            exact h
          intro v2 w4 hown2 hg2 _ _
          have hT := Lib.hid (HT1.out.more rfl rfl hown2 hg2)
          clear hown hown2 hg2 hcv hi0 hz0 hz1 hz2
          go_wp2_with fail
          go_meet
          case rel => exact ⟨rfl, hT.out⟩
        · rw [show tagV 3 = .int .u32 1751672161 from rfl] at hcell
          have hcv : (convert 24 9 (.slice (some ⟨wr.heap.size, 0, none⟩) 4 4)).run Tryz.prog (wr.alloc (.cells #[.int .u8 104, .int .u8 104, .int .u8 101, .int .u8 97] 5)) = .ok (.string ⟨#[104, 104, 101, 97]⟩) (wr.alloc (.cells #[.int .u8 104, .int .u8 104, .int .u8 101, .int .u8 97] 5)) := conv4 wr 104 104 101 97
          have hown := HT1.out.own
          have hsz := HT1.out.below.size
          go_wp2_with (at_builtin; go_must (refine wpList_append_own_at _ rfl (.tmp 34) (.tmp 48) 28 rfl w3.heap.size 9 i0 (.string ⟨#[]⟩) 1 16 Tryz.underlying28 hi0 hz0 hz1 hz2 rfl (by decide) _ _ _ rfl ((hown.alloc _).alloc _) ⟨wr.heap.size + 1, 0, none⟩ 1 1 [strT 3] rfl rfl ?_ (by simp [strT, Value.oneCell']) (by unfold maxLen; omega) (by omega) (by simp; omega) ?_))
          · have h := cell_one_new (wr.alloc (.cells #[.int .u8 104, .int .u8 104, .int .u8 101, .int .u8 97] 5)) (strT 3) 9
            rw [World.size_alloc] at h
            exact h
          intro v2 w4 hown2 hg2 _ _
          have hT := Lib.hid (HT1.out.more rfl rfl hown2 hg2)
          clear hown hown2 hg2 hcv hi0 hz0 hz1 hz2
          go_wp2_with fail
          go_meet
          case rel => exact ⟨rfl, hT.out⟩
        · rw [show tagV 4 = .int .u32 1752003704 from rfl] at hcell
          have hcv : (convert 24 9 (.slice (some ⟨wr.heap.size, 0, none⟩) 4 4)).run Tryz.prog (wr.alloc (.cells #[.int .u8 104, .int .u8 109, .int .u8 116, .int .u8 120] 5)) = .ok (.string ⟨#[104, 109, 116, 120]⟩) (wr.alloc (.cells #[.int .u8 104, .int .u8 109, .int .u8 116, .int .u8 120] 5)) := conv4 wr 104 109 116 120
          have hown := HT1.out.own
          have hsz := HT1.out.below.size
          go_wp2_with (at_builtin; go_must (refine wpList_append_own_at _ rfl (.tmp 34) (.tmp 48) 28 rfl w3.heap.size 9 i0 (.string ⟨#[]⟩) 1 16 Tryz.underlying28 hi0 hz0 hz1 hz2 rfl (by decide) _ _ _ rfl ((hown.alloc _).alloc _) ⟨wr.heap.size + 1, 0, none⟩ 1 1 [strT 4] rfl rfl ?_ (by simp [strT, Value.oneCell']) (by unfold maxLen; omega) (by omega) (by simp; omega) ?_))
          · have h := cell_one_new (wr.alloc (.cells #[.int .u8 104, .int .u8 109, .int .u8 116, .int .u8 120] 5)) (strT 4) 9
            rw [World.size_alloc] at h
            exact h
          intro v2 w4 hown2 hg2 _ _
          have hT := Lib.hid (HT1.out.more rfl rfl hown2 hg2)
          clear hown hown2 hg2 hcv hi0 hz0 hz1 hz2
          go_wp2_with fail
          go_meet
          case rel => exact ⟨rfl, hT.out⟩
        · rw [show tagV 5 = .int .u32 1835104368 from rfl] at hcell
          have hcv : (convert 24 9 (.slice (some ⟨wr.heap.size, 0, none⟩) 4 4)).run Tryz.prog (wr.alloc (.cells #[.int .u8 109, .int .u8 97, .int .u8 120, .int .u8 112] 5)) = .ok (.string ⟨#[109, 97, 120, 112]⟩) (wr.alloc (.cells #[.int .u8 109, .int .u8 97, .int .u8 120, .int .u8 112] 5)) := conv4 wr 109 97 120 112
          have hown := HT1.out.own
          have hsz := HT1.out.below.size
          go_wp2_with (at_builtin; go_must (refine wpList_append_own_at _ rfl (.tmp 34) (.tmp 48) 28 rfl w3.heap.size 9 i0 (.string ⟨#[]⟩) 1 16 Tryz.underlying28 hi0 hz0 hz1 hz2 rfl (by decide) _ _ _ rfl ((hown.alloc _).alloc _) ⟨wr.heap.size + 1, 0, none⟩ 1 1 [strT 5] rfl rfl ?_ (by simp [strT, Value.oneCell']) (by unfold maxLen; omega) (by omega) (by simp; omega) ?_))
          · have h := cell_one_new (wr.alloc (.cells #[.int .u8 109, .int .u8 97, .int .u8 120, .int .u8 112] 5)) (strT 5) 9
            rw [World.size_alloc] at h
            exact h
          intro v2 w4 hown2 hg2 _ _
          have hT := Lib.hid (HT1.out.more rfl rfl hown2 hg2)
          clear hown hown2 hg2 hcv hi0 hz0 hz1 hz2
          go_wp2_with fail
          go_meet
          case rel => exact ⟨rfl, hT.out⟩
        · rw [show tagV 6 = .int .u32 1851878757 from rfl] at hcell
          have hcv : (convert 24 9 (.slice (some ⟨wr.heap.size, 0, none⟩) 4 4)).run Tryz.prog (wr.alloc (.cells #[.int .u8 110, .int .u8 97, .int .u8 109, .int .u8 101] 5)) = .ok (.string ⟨#[110, 97, 109, 101]⟩) (wr.alloc (.cells #[.int .u8 110, .int .u8 97, .int .u8 109, .int .u8 101] 5)) := conv4 wr 110 97 109 101
          have hown := HT1.out.own
          have hsz := HT1.out.below.size
          go_wp2_with (at_builtin; go_must (refine wpList_append_own_at _ rfl (.tmp 34) (.tmp 48) 28 rfl w3.heap.size 9 i0 (.string ⟨#[]⟩) 1 16 Tryz.underlying28 hi0 hz0 hz1 hz2 rfl (by decide) _ _ _ rfl ((hown.alloc _).alloc _) ⟨wr.heap.size + 1, 0, none⟩ 1 1 [strT 6] rfl rfl ?_ (by simp [strT, Value.oneCell']) (by unfold maxLen; omega) (by omega) (by simp; omega) ?_))
          · have h := cell_one_new (wr.alloc (.cells #[.int .u8 110, .int .u8 97, .int .u8 109, .int .u8 101] 5)) (strT 6) 9
            rw [World.size_alloc] at h
            exact h
          intro v2 w4 hown2 hg2 _ _
          have hT := Lib.hid (HT1.out.more rfl rfl hown2 hg2)
          clear hown hown2 hg2 hcv hi0 hz0 hz1 hz2
          go_wp2_with fail
          go_meet
          case rel => exact ⟨rfl, hT.out⟩
        · rw [show tagV 7 = .int .u32 1886352244 from rfl] at hcell
          have hcv : (convert 24 9 (.slice (some ⟨wr.heap.size, 0, none⟩) 4 4)).run Tryz.prog (wr.alloc (.cells #[.int .u8 112, .int .u8 111, .int .u8 115, .int .u8 116] 5)) = .ok (.string ⟨#[112, 111, 115, 116]⟩) (wr.alloc (.cells #[.int .u8 112, .int .u8 111, .int .u8 115, .int .u8 116] 5)) := conv4 wr 112 111 115 116
          have hown := HT1.out.own
          have hsz := HT1.out.below.size
          go_wp2_with (at_builtin; go_must (refine wpList_append_own_at _ rfl (.tmp 34) (.tmp 48) 28 rfl w3.heap.size 9 i0 (.string ⟨#[]⟩) 1 16 Tryz.underlying28 hi0 hz0 hz1 hz2 rfl (by decide) _ _ _ rfl ((hown.alloc _).alloc _) ⟨wr.heap.size + 1, 0, none⟩ 1 1 [strT 7] rfl rfl ?_ (by simp [strT, Value.oneCell']) (by unfold maxLen; omega) (by omega) (by simp; omega) ?_))
          · have h := cell_one_new (wr.alloc (.cells #[.int .u8 112, .int .u8 111, .int .u8 115, .int .u8 116] 5)) (strT 7) 9
            rw [World.size_alloc] at h
            exact h
          intro v2 w4 hown2 hg2 _ _
          have hT := Lib.hid (HT1.out.more rfl rfl hown2 hg2)
          clear hown hown2 hg2 hcv hi0 hz0 hz1 hz2
          go_wp2_with fail
          go_meet
          case rel => exact ⟨rfl, hT.out⟩
      case rest =>
        obtain ⟨rfl, hcut⟩ := hcut
        have HC := Lib.hid hcut
        clear hcut hcell
        go_wp2_with fail
        go_roundg (8 - (k + 1))
        case measure => rw [HK.out]; omega
        case rel => exact ⟨k + 1, by omega, rfl, rfl, HC.out⟩
    · have hk8 : k = 8 := by omega
      subst hk8
      have hwr : wr.heap.size = wr.heap.size := rfl
      obtain ⟨g, capt, cur, hv4, _⟩ := own_form HT1.out.own (by omega)
      subst hv4
      obtain ⟨w5, hw5⟩ : ∃ w5 : World, w5 = wr := ⟨_, rfl⟩
      have hTX : Texts w3 (.slice (some ⟨g, 0, none⟩) 8 capt) 8 w5 := by rw [hw5]; exact HT1.out
      rw [← hw5]
      have HTX := Lib.hid hTX
      clear hw5 hwr HT1 hTX
      go_wp2_with fail
      go_loopg [12] (8) (fun gk iv W => ∃ (m : Nat), m ≤ 7 ∧ gk = 8 - m ∧ iv = .int .i64 ((m : Int) + 1) ∧ ∃ q, W = w5.drewN q)
      case atStart => exact ⟨0, by omega, rfl, rfl, 0, rfl⟩
      case round =>
        obtain ⟨m, hm7, hgj, rfl, q, rfl⟩ := hrel
        have HJ := Lib.hid hgj
        clear hgj
        by_cases hlt : m < 7
        · have jj : (m : Int) + 1 < 8 := by omega
          go_wp2_with fail
          go_loopg [13] (1) (fun gk kv W => gk = 1 ∧ kv = .int .i64 ((m : Int) + 1) ∧ ∃ q, W = w5.drewN q)
          case atStart => exact ⟨rfl, rfl, q, rfl⟩
          case round =>
            obtain ⟨_, rfl, q2, rfl⟩ := hrel
            have hown6 := HTX.out.own
            have e1 : w5.cell? ⟨g, m + 1, none⟩ = some (.string (tag (m + 1))) := by
              rw [hown6.cellAt (m + 1) (by omega)]
              rw [List.getElem?_map, List.getElem?_range (by omega)]
              rfl
            have e0 : w5.cell? ⟨g, m, none⟩ = some (.string (tag m)) := by
              rw [hown6.cellAt m (by omega)]
              rw [List.getElem?_map, List.getElem?_range (by omega)]
              rfl
            have hbl : Op.bytesLess (tag (m + 1)).toList (tag m).toList = false := by
              rw [tags_less (m + 1) (by omega) m (by omega)]
              exact decide_eq_false (by omega)
            obtain ⟨tx, htx⟩ : ∃ t, t = tag (m + 1) := ⟨_, rfl⟩
            obtain ⟨ty, hty⟩ : ∃ t, t = tag m := ⟨_, rfl⟩
            rw [← htx] at e1 hbl
            rw [← hty] at e0 hbl
            have hk0 : (0 : Int) < (m : Int) + 1 := by omega
            have hk3 : 0 ≤ (m : Int) + 1 := by omega
            have hk5 : (m : Int) < 8 := by omega
            have hk6 : IntKind.i64.wrap (m : Int) = m := IntWalk.i64_in _ (by omega)
            have hka : decide ((0 : Int) < (m : Int) + 1) = true := decide_eq_true (by omega)
            clear hown6 htx hty
            go_upto_region 13 with fail
            go_quiet (fail)
            go_wp2_with fail
            go_roundg (8 - (m + 1))
            case measure => rw [HJ.out]; omega
            case rel => exact ⟨m + 1, by omega, rfl, by go_num, q2 + nq, rfl⟩
        · have hm : m = 7 := by omega
          subst hm
          clear HJ HI HK
          go_wp2_with fail
          with_reducible refine (HT.out _).mono ?_
          rintro e w6 ⟨rfl, q3, hw6⟩
          have hb6 : Below w3.heap.size w3 w6 := by rw [hw6]; exact below_drewN (below_drewN HTX.out.below q) q3
          have hb26 : Below w2.heap.size w2 w6 := HG.out.2.2.trans (hb6.mono HG.out.2.2.size)
          have hot := (H2.out.1).later hb26
          have HRW := Lib.hid (HRA.out _ _ _ _ _ hot)
          have hown6 : w6.ownsRow w3.heap.size 9 1 (.slice (some ⟨g, 0, none⟩) 8 capt) 8 ((List.range 8).map strT) := by rw [hw6]; exact HTX.out.own
          have H6 := Lib.hid (And.intro hb6 (And.intro hb26 hown6))
          clear hb6 hb26 hot hown6 hw6 HT
          go_wp2_with fail
          with_reducible refine HRW.out.mono ?_
          rintro e w7 ⟨x4, hx⟩
          have HX := Lib.hid x4
          clear x4 HRW
          rcases hx with ⟨rfl, v, rfl, hq⟩ | ⟨rfl, t, a, rfl⟩
          · have HQ := Lib.hid hq
            clear hq
            go_wp2_with fail
            (try simp only [Exit.inBlock, Exit.then]); refine bodyPost_ret (results_tmp4 rfl _ _ _) rfl ?_
            have x4 := HX.out
            obtain ⟨hb6, hb26, hown6⟩ := H6.out
            have hb12 : Below w.heap.size w w2 := Kept.below HB.out H2.out.1.kept HB.out.size (fun q hq e => by omega)
            exact ⟨_, _, rfl, ⟨own_mono (own_block hown6 (fun k hk => x4.block k (hown6.lt k hk).2)) (Nat.le_trans hb12.size HG.out.2.2.size), (hb12.trans (hb26.mono hb12.size)).trans (x4.mono (Nat.le_trans hb12.size hb26.size))⟩, fun _ => HQ.out⟩
          · go_wp2_with fail
            (try simp only [Exit.inBlock, Exit.then]); refine bodyPost_ret (results_tmp4 rfl _ _ _) rfl ?_
            have x4 := HX.out
            obtain ⟨hb6, hb26, hown6⟩ := H6.out
            have hb12 : Below w.heap.size w w2 := Kept.below HB.out H2.out.1.kept HB.out.size (fun q hq e => by omega)
            exact ⟨_, _, rfl, ⟨own_mono (own_block hown6 (fun k hk => x4.block k (hown6.lt k hk).2)) (Nat.le_trans hb12.size HG.out.2.2.size), (hb12.trans (hb26.mono hb12.size)).trans (x4.mono (Nat.le_trans hb12.size hb26.size))⟩, fun h => by cases h⟩

/-- The bytes of a table. -/
def RowOf (o k : Nat) (bs : List Nat) (v : Value) (w : World) : Prop := ∃ X, v = .slice (some ⟨X, 0, none⟩) k k ∧ w.heap[X]? = some (.cells (taken bs o k).toArray 5 (0, 0))

theorem impl_tag (B N cap i : Nat) (bs : List Nat) (at_ ln : Nat → Nat) (w : World) (hd : Dir bs at_ ln) (hp : ∀ i, i < 8 → 0 < ln i) (h : InMem B N cap bs w) (hi : i < 8) :
    Calls Tryz.prog 6 #[.slice (some ⟨B, 0, none⟩) N cap, .string (tag i)] w (Asked w true (RowOf (at_ i) (ln i) bs)) :=
  impl_any B N cap bs at_ ln w hd h (tag i) (tagN i : Nat) true _ (tagof_tag i hi) (fun R L M w W hot => by
    obtain ⟨D6, val6, m1, m2, m3⟩ := hot.map
    exact (raw_any _ B N cap _ L M i 8 bs at_ ln D6 val6 W hot.rd hot.ld0 hot.ld1 m1 m2 (m3 i hi) hi (hp i hi) (by have := hd.fit i hi; rw [h.len] at this; exact this)).mono fun e w' ⟨X, he, x1, _, _, x4⟩ => ⟨x4, Or.inl ⟨rfl, _, he, X, rfl, x1⟩⟩)

set_option maxHeartbeats 1000000 in
theorem error_any (s : ByteArray) (w : World) : Calls Tryz.prog 75 #[.string s] w fun e w' => (∃ a, e = .returned (.iface 188 a)) ∧ Below w.heap.size w w' := by
  have hb : Below w.heap.size w (w.alloc (.cells #[.string s] 190)) := (Below.refl _ _).alloc (Nat.le_refl _) _
  go_enter Tryz.func75, Tryz.ntmps75
  go_wp2_with fail
  go_ret
  exact ⟨⟨_, rfl⟩, hb⟩

set_option maxRecDepth 100000 in
set_option maxHeartbeats 4000000 in
theorem raw_none (L M n : Nat) (x : Int) (D : DataW Value) (w : World) (hl1 : w.cell? ⟨L, 1, none⟩ = some (.map (some M))) (hm : w.ownsMap Tryz.prog 89 hv M n D) (hno : Maps.has D (.int .u32 x) = false) (hx : 0 ≤ x ∧ x < 4294967296) (Q : Value → World → Prop) :
    Calls Tryz.prog 30 #[.pointer (some ⟨L, 0, none⟩), .int .u32 x] w (Got1 false Q w) := by
  have hlk := look_none hm hno hx
  have HX : Hid (Calls Tryz.prog 51 #[.pointer (some ⟨L, 0, none⟩), .int .u32 x, .slice none 0 0] w (Got1 false Q w)) := by
    refine Lib.hid ?_
    clear hm hno hx
    go_enter Tryz.func51, Tryz.ntmps51
    go_wp2_with fail
    with_reducible refine (error_any _ _).mono ?_
    rintro e w3 ⟨⟨a, rfl⟩, hb⟩
    have HB := Lib.hid hb
    clear hb
    go_wp2_with fail
    go_ret2
    exact ⟨((Below.refl _ _).alloc (Nat.le_refl _) _).trans (HB.out.mono (by simp)), Or.inr ⟨rfl, _, _, rfl⟩⟩
  clear hm hno hx hlk hl1
  go_enter Tryz.func30, Tryz.ntmps30
  go_wp2_with fail
  with_reducible refine HX.out.mono ?_
  rintro e w3 ⟨x4, ⟨h, _⟩ | ⟨_, t, a, rfl⟩⟩
  · cases h
  · have HB := Lib.hid x4
    clear x4
    go_wp2_with fail
    go_ret2
    exact ⟨HB.out, Or.inr ⟨rfl, _, _, rfl⟩⟩

theorem impl_zz (B N cap : Nat) (bs : List Nat) (at_ ln : Nat → Nat) (w : World) (hd : Dir bs at_ ln) (h : InMem B N cap bs w) :
    Calls Tryz.prog 6 #[.slice (some ⟨B, 0, none⟩) N cap, .string ⟨#[122, 122, 122, 122]⟩] w (Asked w false (fun _ _ => True)) :=
  impl_any B N cap bs at_ ln w hd h _ (be4 122 122 122 122 : Nat) false _ (fun W => tagof_any 122 122 122 122 W) (fun R L M w W hot => by
    obtain ⟨D6, val6, m1, m2, m3⟩ := hot.map
    refine raw_none L M 8 _ D6 W hot.ld1 m1 (m2.no fun j hj e => ?_) (by decide) _
    have hj := mem_down.1 hj
    have : ∀ j, j < 8 → be4 122 122 122 122 ≠ tagN j := by decide +kernel
    unfold kTag at e
    injection e with _ e
    exact this j hj (by exact_mod_cast e))
end Go.Proofs.YtgggpllmgnpngaaGreatDoor.Tb
