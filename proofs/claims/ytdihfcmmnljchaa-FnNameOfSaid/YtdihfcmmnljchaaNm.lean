/- Names as lists of characters, their bytes in UTF-8 and in UTF-16: the plain law. No program in sight. -/
import Derived.Lib.TrimUEq
import Derived.Stop.FmtQuoteTie
import Derived.Laws.Cover4
namespace Go.Proofs.Ytdihfcmmnljchaa.Nm
open Go

/-- A character that Unicode has. -/
def Val (r : Nat) : Prop := r < 55296 ∨ (57344 ≤ r ∧ r ≤ 1114111)
def enc (r : Nat) : List UInt8 :=
  if r < 128 then [UInt8.ofNat r]
  else if r < 2048 then [UInt8.ofNat (192 + r / 64), UInt8.ofNat (128 + r % 64)]
  else if r < 65536 then [UInt8.ofNat (224 + r / 4096), UInt8.ofNat (128 + r / 64 % 64), UInt8.ofNat (128 + r % 64)]
  else [UInt8.ofNat (240 + r / 262144), UInt8.ofNat (128 + r / 4096 % 64), UInt8.ofNat (128 + r / 64 % 64), UInt8.ofNat (128 + r % 64)]
theorem enc_eq (r : Nat) (h : Val r) : (Utf8.encode (r : Int)).data.toList = enc r := by
  unfold Val at h
  by_cases c1 : r < 128
  · rw [Extern.FmtText.enc1 r c1, enc, if_pos c1]
  by_cases c2 : r < 2048
  · rw [Extern.FmtText.enc2 r c1 c2, enc, if_neg c1, if_pos c2]
  by_cases c3 : r < 65536
  · rw [Extern.FmtText.enc3 r c2 c3 (by omega), enc, if_neg c1, if_neg c2, if_pos c3]
  · rw [Extern.FmtText.enc4 r c3 (by omega), enc, if_neg c1, if_neg c2, if_neg c3]
def utf8 (rs : List Nat) : List UInt8 := rs.flatMap enc
def str (rs : List Nat) : ByteArray := ⟨(utf8 rs).toArray⟩

theorem enc_pos (r : Nat) : 1 ≤ (enc r).length ∧ (enc r).length ≤ 4 := by
  unfold enc
  repeat' split
  all_goals simp

theorem toNat_lt (n : Nat) (h : n < 256) : (UInt8.ofNat n).toNat = n := by simp [UInt8.toNat_ofNat']; omega

theorem decode_enc (r : Nat) (h : Val r) (t : List UInt8) : Lib.decodeL (enc r ++ t) = (r, (enc r).length) := by
  rw [Lib.decodeL_N]
  unfold Val at h
  by_cases c1 : r < 128
  · rw [enc, if_pos c1]
    simp only [List.cons_append, List.nil_append, List.getD_cons_zero, List.getD_cons_succ, List.length_cons, List.length_nil]
    rw [toNat_lt _ (by omega)]
    unfold Lib.decodeN
    rw [if_pos c1]
  by_cases c2 : r < 2048
  · rw [enc, if_neg c1, if_pos c2]
    simp only [List.cons_append, List.nil_append, List.getD_cons_zero, List.getD_cons_succ, List.length_cons, List.length_nil]
    rw [toNat_lt _ (by omega), toNat_lt _ (by omega)]
    have e : (192 + r / 64) % 32 * 64 + (128 + r % 64) % 64 = r := by omega
    unfold Lib.decodeN
    rw [if_neg (by omega), if_pos (by omega), e, if_pos (by omega)]
  by_cases c3 : r < 65536
  · rw [enc, if_neg c1, if_neg c2, if_pos c3]
    simp only [List.cons_append, List.nil_append, List.getD_cons_zero, List.getD_cons_succ, List.length_cons, List.length_nil]
    rw [toNat_lt _ (by omega), toNat_lt _ (by omega), toNat_lt _ (by omega)]
    have e : (224 + r / 4096) % 16 * 4096 + (128 + r / 64 % 64) % 64 * 64 + (128 + r % 64) % 64 = r := by omega
    unfold Lib.decodeN
    rw [if_neg (by omega), if_neg (by omega), if_pos (by omega), e, if_pos (by omega)]
  · rw [enc, if_neg c1, if_neg c2, if_neg c3]
    simp only [List.cons_append, List.nil_append, List.getD_cons_zero, List.getD_cons_succ, List.length_cons, List.length_nil]
    rw [toNat_lt _ (by omega), toNat_lt _ (by omega), toNat_lt _ (by omega), toNat_lt _ (by omega)]
    have e : (240 + r / 262144) % 8 * 262144 + (128 + r / 4096 % 64) % 64 * 4096 + (128 + r / 64 % 64) % 64 * 64 + (128 + r % 64) % 64 = r := by omega
    unfold Lib.decodeN
    rw [if_neg (by omega), if_neg (by omega), if_neg (by omega), if_pos (by omega), e, if_pos (by omega)]

theorem utf8_append (a b : List Nat) : utf8 (a ++ b) = utf8 a ++ utf8 b := by simp [utf8]
theorem str_nil : str [] = ByteArray.empty := rfl
theorem str_snoc (rs : List Nat) (r : Nat) (h : Val r) : str rs ++ Utf8.encode (r : Int) = str (rs ++ [r]) := by
  unfold str
  rw [utf8_append]
  have : utf8 [r] = (Utf8.encode (r : Int)).data.toList := by rw [enc_eq r h]; simp [utf8]
  rw [this]
  apply ByteArray.ext
  simp [ByteArray.data_append]
theorem size_str (rs : List Nat) : (str rs).size = (utf8 rs).length := by simp [str, ByteArray.size]
theorem utf8_le : ∀ (rs : List Nat), (utf8 rs).length ≤ 4 * rs.length
  | [] => by simp [utf8]
  | r :: rs => by
    have ih := utf8_le rs
    have := enc_pos r
    have e : utf8 (r :: rs) = enc r ++ utf8 rs := by simp [utf8]
    rw [e, List.length_append, List.length_cons]
    omega

/-- The k-th character of a text stands behind the bytes of those ahead of it. -/
theorem decode_at (rs : List Nat) (h : ∀ r ∈ rs, Val r) (k r : Nat) (hk : rs[k]? = some r) :
    (utf8 (rs.take k)).length < (str rs).size ∧ Utf8.decode (str rs) (utf8 (rs.take k)).length = (r, (enc r).length) ∧ (utf8 (rs.take (k + 1))).length = (utf8 (rs.take k)).length + (enc r).length := by
  obtain ⟨hl, hr⟩ := List.getElem?_eq_some_iff.1 hk
  have hv := h r (List.mem_of_getElem? hk)
  have e : rs = rs.take k ++ r :: rs.drop (k + 1) := by
    conv => lhs; rw [← List.take_append_drop k rs]
    rw [List.drop_eq_getElem_cons hl, hr]
  have e2 : utf8 rs = utf8 (rs.take k) ++ (enc r ++ utf8 (rs.drop (k + 1))) := by
    conv => lhs; rw [e]
    rw [utf8_append]
    congr 1
  refine ⟨?_, ?_, ?_⟩
  · rw [size_str, e2]; have := (enc_pos r).1; simp only [List.length_append]; omega
  · rw [← Lib.decodeL_drop]
    have : (str rs).data.toList.drop (utf8 (rs.take k)).length = enc r ++ utf8 (rs.drop (k + 1)) := by
      unfold str
      show (utf8 rs).drop _ = _
      rw [e2, List.drop_left]
    rw [this, decode_enc r hv]
  · rw [List.take_succ_eq_append_getElem hl, utf8_append, List.length_append, hr]
    simp [utf8]

theorem utf8_ascii : ∀ (rs : List Nat), (∀ r ∈ rs, r < 128) → utf8 rs = rs.map UInt8.ofNat
  | [], _ => rfl
  | r :: rs, h => by
    have ih := utf8_ascii rs (fun x hx => h x (by simp [hx]))
    have e : utf8 (r :: rs) = enc r ++ utf8 rs := by simp [utf8]
    rw [e, ih, enc, if_pos (h r (by simp))]
    rfl

/-! ### UTF-16 -/
def u16 (r : Nat) : List Nat := if 65536 ≤ r then [55296 + (r - 65536) / 1024, 56320 + (r - 65536) % 1024] else [r]
def utf16 (rs : List Nat) : List Nat := rs.flatMap u16
def two (n : Nat) : List Nat := [n / 256 % 256, n % 256]
def bytes16 (l : List Nat) : List Nat := l.flatMap two

/-! ### Records -/
structure Rec where
  id : Nat
  mac : Bool
  runes : List Nat

def Allowed (mac : Bool) (r : Nat) : Prop := (32 ≤ r ∧ r < 127) ∨ (mac = false ∧ 160 ≤ r ∧ r < 55296) ∨ (mac = false ∧ 65536 ≤ r ∧ r < 131072)
structure Rec.Ok (x : Rec) : Prop where
  id : x.id < 8
  few : x.runes.length ≤ 300
  all : ∀ r ∈ x.runes, Allowed x.mac r
theorem Allowed.val {mac : Bool} {r : Nat} (h : Allowed mac r) : Val r := by unfold Allowed at h; unfold Val; omega
theorem Allowed.low {r : Nat} (h : Allowed true r) : r < 128 := by unfold Allowed at h; simp at h; omega

/-- The bytes of a record's text, as the writer writes them. -/
def Rec.bytes (x : Rec) : List Nat := if x.mac then x.runes else bytes16 (utf16 x.runes)
end Go.Proofs.Ytdihfcmmnljchaa.Nm
