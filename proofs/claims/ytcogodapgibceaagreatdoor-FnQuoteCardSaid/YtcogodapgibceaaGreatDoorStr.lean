/-
  spec.whole writes a whole number in decimal: for every int64.
-/
import Derived.Test.YtcogodapgibceaaGreatDoorBase
import Derived.Laws.BytesArg
import Derived.Lib.ItoaLen
namespace Go.Proofs.YtcogodapgibceaaGreatDoor
open Go.RowKit

/-- 'string([]byte{c})'. -/
theorem one_byte (x : Int) (c : UInt8) (hx : UInt8.ofNat x.toNat = c) (W : World) :
    (convert 47 9 (.slice (some ⟨W.heap.size, 0, none⟩) 1 1)).run Tryz.prog (W.alloc (.cells #[.int .u8 x] 5)) = .ok (.string ⟨[c].toArray⟩) (W.alloc (.cells #[.int .u8 x] 5)) := by
  have h := run_convert_bytes_arg (P := Tryz.prog) (W.alloc (.cells #[.int .u8 x] 5)) 47 5 Tryz.underlying47 Tryz.underlying5 W.heap.size 0 1 1 [x] rfl (fun i hi => by
    obtain rfl : i = 0 := by omega
    exact (World.cell?_alloc_mark W #[.int .u8 x] 5 (0, 0) 0)) 9 Tryz.underlying9
  rw [h]
  simp [strOfNums, hx]

theorem dec_step (v : Nat) (h : 9 < v) (l : List UInt8) : Lib.decDigits v ++ l = Lib.decDigits (v / 10) ++ (UInt8.ofNat (48 + v % 10) :: l) := by
  rw [Lib.decDigits, dif_neg (by omega)]
  simp
theorem dec_last (v : Nat) (h : ¬ 9 < v) (l : List UInt8) : Lib.decDigits v ++ l = UInt8.ofNat (48 + v) :: l := by
  rw [Lib.decDigits, dif_pos (by omega)]
  simp

/-- What spec.whole hands back. -/
def WholePost (l : List UInt8) (w : World) (e : Ending) (w' : World) : Prop := e = .returned (.string ⟨l.toArray⟩) ∧ Below w.heap.size w w'

theorem len_rest {u v : Nat} {l : List UInt8} (hu : u ≤ 9223372036854775808) (h : Lib.decDigits u = Lib.decDigits v ++ l) : l.length ≤ 20 := by
  have h1 := Lib.nDigits_le20 u (by omega)
  rw [← Lib.decDigits_length, h, List.length_append] at h1
  omega

set_option maxRecDepth 100000 in
set_option maxHeartbeats 400000 in
theorem whole_pos (u : Nat) (w : World) (hu : u ≤ 9223372036854775807) : Calls Tryz.prog 16 #[.int .i64 u] w (WholePost (Lib.decDigits u) w) := by
  have hlt : decide ((u : Int) < 0) = false := by simp
  go_enter Tryz.func16, Tryz.ntmps16
  go_wp2
  go_loopw [0, 3] (fun i o wr => ∃ (v : Nat) (l : List UInt8), v ≤ u ∧ i = .int .i64 v ∧ o = .string ⟨l.toArray⟩ ∧ Lib.decDigits u = Lib.decDigits v ++ l ∧ Below w.heap.size w wr) (fun i _ _ => (intOf i).toNat)
  case atStart => exact ⟨u, [], Nat.le_refl _, rfl, rfl, by simp, Below.refl _ _⟩
  case round =>
    obtain ⟨v, l, hv, rfl, rfl, hd, hb⟩ := hrel
    have hl := len_rest (by omega) hd
    by_cases h9 : 9 < v
    · have HD := hide (hd.trans (dec_step v h9 l))
      have HB := hide (hb.alloc hb.size (.cells #[.int .u8 (48 + (v : Int) % 10)] 5))
      clear hb hd
      have hone := fun W => one_byte (48 + (v : Int) % 10) (UInt8.ofNat (48 + v % 10)) (by congr 1) W
      generalize UInt8.ofNat (48 + v % 10) = c at HD hone
      go_wp2
      go_roundw
      case rel => exact ⟨v / 10, c :: l, by omega, by go_num, congrArg Value.string (ByteArray.mk_append_mk _ _), unhide HD, unhide HB⟩
      case measure => simp [intOf]; omega
    · have HD := hide (hd.trans (dec_last v h9 l))
      have HB := hide (hb.alloc hb.size (.cells #[.int .u8 (48 + (v : Int))] 5))
      clear hb hd
      have hone := fun W => one_byte (48 + (v : Int)) (UInt8.ofNat (48 + v)) (by congr 1) W
      generalize UInt8.ofNat (48 + v) = c at HD hone
      go_wp2
      go_ret
      exact ⟨by rw [unhide HD]; exact congrArg (fun x => Ending.returned (Value.string x)) (ByteArray.mk_append_mk [c] l), unhide HB⟩

theorem neg_end (c : UInt8) (l : List UInt8) : Ending.returned (Value.string (⟨#[45]⟩ ++ (⟨#[c]⟩ ++ ⟨l.toArray⟩))) = Ending.returned (Value.string ⟨(45 :: c :: l).toArray⟩) := by
  have h1 : (⟨#[c]⟩ ++ ⟨l.toArray⟩ : ByteArray) = ⟨(c :: l).toArray⟩ := ByteArray.mk_append_mk [c] l
  have h2 : (⟨#[45]⟩ ++ ⟨(c :: l).toArray⟩ : ByteArray) = ⟨(45 :: c :: l).toArray⟩ := ByteArray.mk_append_mk [45] (c :: l)
  rw [h1, h2]
set_option maxRecDepth 100000 in
set_option maxHeartbeats 1000000 in
theorem whole_neg (u : Nat) (w : World) (hu : u ≤ 9223372036854775808) (h1 : 1 ≤ u) : Calls Tryz.prog 16 #[.int .i64 (-(u : Int))] w (WholePost (45 :: Lib.decDigits u) w) := by
  have hlt : decide (0 < u) = true := by simp; omega
  go_enter Tryz.func16, Tryz.ntmps16
  go_wp2
  go_loopw [0, 3] (fun i o wr => ∃ (v : Nat) (l : List UInt8), v ≤ u ∧ i = .int .i64 (-(v : Int)) ∧ o = .string ⟨l.toArray⟩ ∧ Lib.decDigits u = Lib.decDigits v ++ l ∧ Below w.heap.size w wr) (fun i _ _ => (-intOf i).toNat)
  case atStart => exact ⟨u, [], Nat.le_refl _, rfl, rfl, by simp, Below.refl _ _⟩
  case round =>
    obtain ⟨v, l, hv, rfl, rfl, hd, hb⟩ := hrel
    have hl := len_rest (by omega) hd
    by_cases h9 : 9 < v
    · have HD := hide (hd.trans (dec_step v h9 l))
      have HB := hide hb
      clear hb hd
      by_cases hm : (v : Int) % 10 ≤ -((v : Int) % 10)
      · have hone := fun W => one_byte (48 + -((v : Int) % 10)) (UInt8.ofNat (48 + v % 10)) (by congr 1; omega) W
        have HC := hide ((unhide HB).alloc (unhide HB).size (.cells #[.int .u8 (48 + -((v : Int) % 10))] 5))
        generalize UInt8.ofNat (48 + v % 10) = c at HD hone
        go_wp2
        go_roundw
        case rel => exact ⟨v / 10, c :: l, by omega, by go_num, congrArg Value.string (ByteArray.mk_append_mk _ _), unhide HD, unhide HC⟩
        case measure => simp [intOf]; omega
      · have hone := fun W => one_byte (48 + (v : Int) % 10) (UInt8.ofNat (48 + v % 10)) (by congr 1) W
        have HC := hide ((unhide HB).alloc (unhide HB).size (.cells #[.int .u8 (48 + (v : Int) % 10)] 5))
        generalize UInt8.ofNat (48 + v % 10) = c at HD hone
        go_wp2
        go_roundw
        case rel => exact ⟨v / 10, c :: l, by omega, by go_num, congrArg Value.string (ByteArray.mk_append_mk _ _), unhide HD, unhide HC⟩
        case measure => simp [intOf]; omega
    · have HD := hide (hd.trans (dec_last v h9 l))
      have HB := hide hb
      clear hb hd
      by_cases hm : (v : Int) ≤ -(v : Int)
      · have hone := fun W => one_byte (48 + -(v : Int)) (UInt8.ofNat (48 + v)) (by congr 1; omega) W
        have HC := hide ((unhide HB).alloc (unhide HB).size (.cells #[.int .u8 (48 + -(v : Int))] 5))
        generalize UInt8.ofNat (48 + v) = c at HD hone
        go_wp2
        go_ret
        exact ⟨by rw [unhide HD]; exact neg_end c l, unhide HC⟩
      · have hone := fun W => one_byte (48 + (v : Int)) (UInt8.ofNat (48 + v)) (by congr 1) W
        have HC := hide ((unhide HB).alloc (unhide HB).size (.cells #[.int .u8 (48 + (v : Int))] 5))
        generalize UInt8.ofNat (48 + v) = c at HD hone
        go_wp2
        go_ret
        exact ⟨by rw [unhide HD]; exact neg_end c l, unhide HC⟩

theorem whole_any (n : Int) (w : World) (h0 : -9223372036854775808 ≤ n) (h1 : n ≤ 9223372036854775807) : Calls Tryz.prog 16 #[.int .i64 n] w (WholePost (Lib.itoa n) w) := by
  by_cases h : n < 0
  · obtain ⟨u, rfl⟩ : ∃ u : Nat, n = -(u : Int) := ⟨n.natAbs, by omega⟩
    rw [Lib.itoa_neg u (by omega)]
    exact whole_neg u w (by omega) (by omega)
  · obtain ⟨u, rfl⟩ : ∃ u : Nat, n = (u : Int) := ⟨n.toNat, by omega⟩
    rw [Lib.itoa_nonneg]
    exact whole_pos u w (by omega)
end Go.Proofs.YtcogodapgibceaaGreatDoor
