/- How many characters a set has, walked. -/
import Derived.Test.YtpmlofllkhpihaaRsAny
namespace Go.Proofs.Ytpmlofllkhpihaa.Rs
open Go Go.RowKit

/-- The string that the third operation of a code's second region looks into. -/
def strOf (o : Op) : ByteArray := match o with
  | .index _ (.const (.string s)) _ => s
  | _ => default
def operOf (ops : Array Oper) (j : Nat) : ByteArray := match ops[j]? with
  | some o => strOf o.op
  | none => default
def tabOf (c : Code) : ByteArray := match c with
  | .seq _ (.seq (.region _ ops _) _) => operOf ops 2
  | _ => default
noncomputable def tab : ByteArray := match Try.f18.body with
  | some c => tabOf c
  | none => default

theorem and_255u (r : Nat) (h : r < 4294967296) : bits .and .u32 (r : Int) 255 = (r : Int) % 256 := by
  have e : r &&& 255 = r % 256 := Nat.and_two_pow_sub_one_eq_mod r 8
  rw [show (255 : Int) = ((255 : Nat) : Int) from rfl, and_u32 r 255 h (by omega), e]
  omega

theorem table_at {T : ByteArray} (hq : (List.range 256).all (fun i => T.data[i]?.map (·.toNat) == some (popN 8 i)) = true) (i : Nat) (hi : i < 256) (h : i < T.size) : (T[i]'h).toNat = popN 8 i := by
  have := List.all_eq_true.mp hq i (List.mem_range.mpr hi)
  have hd : T.data[i]? = some (T[i]'h) := by
    rw [Array.getElem?_eq_getElem (by exact h)]
    rfl
  rw [hd] at this
  simpa using this

set_option maxHeartbeats 1000000 in
theorem ones_any (x : Nat) (w : World) (hx : x < 4294967296) :
    Calls Try.prog 18 #[.int .u32 x] w fun e w' => e = .returned (.int .i64 (pop x)) ∧ Drew w w' := by
  have h1 : x / 16777216 < 256 := by omega
  refine calls_of_wp Try.func18 rfl ?_
  conv in (occs := *) (ByteArray.mk _) => all_goals (change tab)
  generalize hT : tab = T
  have hs : T.size = 256 := by rw [← hT]; kernel_rfl
  have hq : (List.range 256).all (fun i => T.data[i]?.map (·.toNat) == some (popN 8 i)) = true := by rw [← hT]; kernel_rfl
  have hP := table_at hq
  have HP := Lib.hid hP
  clear hT hq hP
  have q1 : (x : Int) / 16777216 < T.size := by omega
  have q2 : (x : Int) / 65536 % 256 < T.size := by omega
  have q3 : (x : Int) / 256 % 256 < T.size := by omega
  have q4 : (x : Int) % 256 < T.size := by omega
  have p1 : 0 ≤ (x : Int) / 16777216 := by omega
  have p2 : 0 ≤ (x : Int) / 65536 % 256 := by omega
  have p3 : 0 ≤ (x : Int) / 256 % 256 := by omega
  have p4 : 0 ≤ (x : Int) % 256 := by omega
  have r2 : bits .and .u32 ((x : Int) / 65536) 255 = (x : Int) / 65536 % 256 := by have := and_255u (x / 65536) (by omega); rw [show ((x / 65536 : Nat) : Int) = (x : Int) / 65536 by omega] at this; exact this
  have r3 : bits .and .u32 ((x : Int) / 256) 255 = (x : Int) / 256 % 256 := by have := and_255u (x / 256) (by omega); rw [show ((x / 256 : Nat) : Int) = (x : Int) / 256 by omega] at this; exact this
  have r4 : bits .and .u32 (x : Int) 255 = (x : Int) % 256 := and_255u x hx
  clear hs
  simp only [Try.ntmps18, List.size_toArray, List.length_cons, List.length_nil, Nat.reduceAdd, Nat.reduceSub, Array.replicate_succ,
     Array.replicate_zero, List.push_toArray, List.append_toArray, List.nil_append, List.cons_append]
  go_wp2
  go_quiet (fail)
  go_wp2
  go_ret
  refine ⟨ret_int ?_, nq, rfl⟩
  rw [HP.out _ (by omega) _, HP.out _ (by omega) _, HP.out _ (by omega) _, HP.out _ (by omega) _]
  have e := pop_bytes x
  have e1 : x >>> 24 = x / 16777216 := by rw [Nat.shiftRight_eq_div_pow]
  have e2 : x >>> 16 = x / 65536 := by rw [Nat.shiftRight_eq_div_pow]
  have e3 : x >>> 8 = x / 256 := by rw [Nat.shiftRight_eq_div_pow]
  rw [e1, e2, e3] at e
  have a1 := pop_le 8 (x / 16777216)
  have a2 := pop_le 8 (x / 65536 % 256)
  have a3 := pop_le 8 (x / 256 % 256)
  have a4 := pop_le 8 (x % 256)
  omega
end Go.Proofs.Ytpmlofllkhpihaa.Rs
