/-
  What spec.Quoted writes, byte by byte, as plain lists: no program in sight.
-/
import Derived.Test.YtcogodapgibceaaGreatDoorBase
namespace Go.Proofs.YtcogodapgibceaaGreatDoor

def fromL : List UInt8 := [7, 8, 12, 10, 13, 9, 11, 34, 92]
def toL : List UInt8 := [97, 98, 102, 110, 114, 116, 118, 34, 92]
def hexL : List UInt8 := [48, 49, 50, 51, 52, 53, 54, 55, 56, 57, 97, 98, 99, 100, 101, 102]
/-- A byte ahead of the table of letters: itself, or its two digits. -/
def part0 (c : UInt8) : List UInt8 := if c.toNat < 32 ∨ c.toNat = 127 then [92, 120, hexL.getD (c.toNat / 16) 0, hexL.getD (c.toNat % 16) 0] else [c]
/-- Behind j entries of the table. -/
def picked (c : UInt8) : Nat → List UInt8
  | 0 => part0 c
  | j + 1 => if fromL.getD j 0 = c then [92, toL.getD j 0] else picked c j
def qb (c : UInt8) : List UInt8 := picked c 9
def pk (c : UInt8) (j : Nat) : ByteArray := ⟨(picked c j).toArray⟩
/-- The quote, and the bytes of l with escapes. -/
def qo (l : List UInt8) : ByteArray := ⟨(34 :: l.flatMap qb).toArray⟩
def quotedL (l : List UInt8) : List UInt8 := 34 :: l.flatMap qb ++ [34]

theorem picked_len (c : UInt8) (j : Nat) : (picked c j).length ≤ 4 := by
  induction j with
  | zero => unfold picked part0; split <;> simp
  | succ j ih => unfold picked; split <;> simp [ih]
theorem pk_size (c : UInt8) (j : Nat) : (pk c j).size ≤ 4 := by
  have := picked_len c j
  simpa [pk, ByteArray.size] using this
theorem flat_len (l : List UInt8) : (l.flatMap qb).length ≤ 4 * l.length := by
  induction l with
  | nil => simp
  | cons a l ih =>
    have := picked_len a 9
    rw [List.flatMap_cons, List.length_append, List.length_cons]
    unfold qb at *
    omega
theorem qo_size (l : List UInt8) : (qo l).size ≤ 4 * l.length + 1 := by
  have := flat_len l
  simp only [qo, ByteArray.size, List.size_toArray, List.length_cons]
  omega
theorem quotedL_len (l : List UInt8) : (quotedL l).length ≤ 4 * l.length + 2 := by
  have := flat_len l
  simp only [quotedL, List.length_cons, List.length_append, List.length_nil]
  omega
theorem qo_nil : qo [] = ⟨#[34]⟩ := rfl
theorem qo_snoc (l : List UInt8) (c : UInt8) : qo (l ++ [c]) = qo l ++ pk c 9 := by
  unfold qo pk
  rw [ByteArray.mk_append_mk, List.flatMap_append]
  simp [qb]
theorem qo_end (l : List UInt8) : qo l ++ ⟨#[34]⟩ = ⟨(quotedL l).toArray⟩ := by
  unfold qo
  rw [show (⟨#[34]⟩ : ByteArray) = ⟨[34].toArray⟩ from rfl, ByteArray.mk_append_mk]
  rfl

theorem hex_at : ∀ n < 16, (⟨#[48, 49, 50, 51, 52, 53, 54, 55, 56, 57, 97, 98, 99, 100, 101, 102]⟩ : ByteArray).extract n (n + 1) = ⟨[hexL.getD n 0].toArray⟩ := by decide
theorem to_at : ∀ j < 9, (⟨#[97, 98, 102, 110, 114, 116, 118, 34, 92]⟩ : ByteArray).extract j (j + 1) = ⟨[toL.getD j 0].toArray⟩ := by decide
theorem extract_one (s : ByteArray) (k : Nat) (h : k < s.size) : s.extract k (k + 1) = ⟨[s[k]].toArray⟩ := by
  apply ByteArray.ext
  rw [ByteArray.data_extract]
  apply Array.ext'
  have h' : k < s.data.toList.length := by simpa using h
  have e : s.data.toList[k]'h' = s[k] := rfl
  simp [Array.toList_extract, List.drop_eq_getElem_cons h']
  rfl
theorem part_hex (c : UInt8) (h : c.toNat < 32 ∨ c.toNat = 127) :
    (⟨#[92, 120]⟩ ++ (⟨#[48, 49, 50, 51, 52, 53, 54, 55, 56, 57, 97, 98, 99, 100, 101, 102]⟩ : ByteArray).extract (c.toNat / 16) (c.toNat / 16 + 1) ++
      (⟨#[48, 49, 50, 51, 52, 53, 54, 55, 56, 57, 97, 98, 99, 100, 101, 102]⟩ : ByteArray).extract (c.toNat % 16) (c.toNat % 16 + 1) : ByteArray) = pk c 0 := by
  rw [hex_at _ (by omega), hex_at _ (by omega), show (⟨#[92, 120]⟩ : ByteArray) = ⟨[92, 120].toArray⟩ from rfl, ByteArray.mk_append_mk, ByteArray.mk_append_mk]
  unfold pk picked part0
  rw [if_pos h]
  rfl
theorem part_one (s : ByteArray) (k : Nat) (hk : k < s.size) (h : ¬ (s[k].toNat < 32 ∨ s[k].toNat = 127)) : s.extract k (k + 1) = pk s[k] 0 := by
  rw [extract_one s k hk]
  unfold pk picked part0
  rw [if_neg h]
theorem pick_yes (c : UInt8) (j : Nat) (hj : j < 9) (h : fromL.getD j 0 = c) : (⟨#[92]⟩ ++ (⟨#[97, 98, 102, 110, 114, 116, 118, 34, 92]⟩ : ByteArray).extract j (j + 1) : ByteArray) = pk c (j + 1) := by
  rw [to_at j hj, show (⟨#[92]⟩ : ByteArray) = ⟨[92].toArray⟩ from rfl, ByteArray.mk_append_mk]
  unfold pk picked
  rw [if_pos h]
  rfl
theorem pick_no (c : UInt8) (j : Nat) (h : ¬ fromL.getD j 0 = c) : pk c j = pk c (j + 1) := by
  rw [pk, pk, picked, if_neg h]
end Go.Proofs.YtcogodapgibceaaGreatDoor
