/-
  spec.Shown: how a value is written, and whether it is.
-/
import Derived.Test.YtcogodapgibceaaGreatDoorStr
namespace Go.Proofs.YtcogodapgibceaaGreatDoor
open Go.RowKit

/-- A value of the thin package, field by field. -/
structure Val where
  kd : Int
  n : Int
  re : Nat
  tx : ByteArray
  ka : Option Addr
  kn : Nat
  kc : Nat
  la : Option Addr
  ln : Nat
  lc : Nat

def Val.cells (v : Val) : List Value := [.int .i64 v.kd, .int .i64 v.n, .float .f64 v.re, .string v.tx, .slice v.ka v.kn v.kc, .slice v.la v.ln v.lc]
/-- How a value is written; none: it is left out. -/
def Val.shown (v : Val) : Option ByteArray :=
  if v.kd = 1 then (if v.n = 1 then some ⟨#[116, 114, 117, 101]⟩ else some ⟨#[102, 97, 108, 115, 101]⟩)
  else if v.kd = 2 then some ⟨(Lib.itoa v.n).toArray⟩
  else if v.kd = 3 then some ⟨(Lib.itoa v.n).toArray⟩
  else if v.kd = 5 then some v.tx
  else none

def ShownPost (o : Option ByteArray) (w : World) (e : Ending) (w' : World) : Prop := e = .returned (.tuple #[.string (o.getD ⟨#[]⟩), .bool o.isSome]) ∧ Below w.heap.size w w'

set_option maxRecDepth 100000 in
set_option maxHeartbeats 400000 in
theorem shown_true (kd n : Int) (re : Nat) (tx : ByteArray) (ka : Option Addr) (kn kc : Nat) (la : Option Addr) (ln lc : Nat) (w : World)
    (c1 : (kd == 1) = true) (d1 : (n == 1) = true) :
    Calls Tryz.prog 12 #[.agg (Val.cells ⟨kd, n, re, tx, ka, kn, kc, la, ln, lc⟩).toArray] w (ShownPost (some ⟨#[116, 114, 117, 101]⟩) w) := by
  have HB := hide ((Below.refl w.heap.size w).alloc (Nat.le_refl _) (.cells (Val.cells ⟨kd, n, re, tx, ka, kn, kc, la, ln, lc⟩).toArray 33))
  unfold Val.cells at HB ⊢
  go_enter Tryz.func12, Tryz.ntmps12
  go_wp2
  go_ret2
  exact ⟨rfl, unhide HB⟩
set_option maxRecDepth 100000 in
set_option maxHeartbeats 400000 in
theorem shown_false (kd n : Int) (re : Nat) (tx : ByteArray) (ka : Option Addr) (kn kc : Nat) (la : Option Addr) (ln lc : Nat) (w : World)
    (c1 : (kd == 1) = true) (d1 : (n == 1) = false) :
    Calls Tryz.prog 12 #[.agg (Val.cells ⟨kd, n, re, tx, ka, kn, kc, la, ln, lc⟩).toArray] w (ShownPost (some ⟨#[102, 97, 108, 115, 101]⟩) w) := by
  have HB := hide ((Below.refl w.heap.size w).alloc (Nat.le_refl _) (.cells (Val.cells ⟨kd, n, re, tx, ka, kn, kc, la, ln, lc⟩).toArray 33))
  unfold Val.cells at HB ⊢
  go_enter Tryz.func12, Tryz.ntmps12
  go_wp2
  go_ret2
  exact ⟨rfl, unhide HB⟩
set_option maxRecDepth 100000 in
set_option maxHeartbeats 400000 in
theorem shown_int (kd n : Int) (re : Nat) (tx : ByteArray) (ka : Option Addr) (kn kc : Nat) (la : Option Addr) (ln lc : Nat) (w : World) (h0 : -9223372036854775808 ≤ n) (h1 : n ≤ 9223372036854775807)
    (c1 : (kd == 1) = false) (c2 : (kd == 2) = true) :
    Calls Tryz.prog 12 #[.agg (Val.cells ⟨kd, n, re, tx, ka, kn, kc, la, ln, lc⟩).toArray] w (ShownPost (some ⟨(Lib.itoa n).toArray⟩) w) := by
  have HB := hide ((Below.refl w.heap.size w).alloc (Nat.le_refl _) (.cells (Val.cells ⟨kd, n, re, tx, ka, kn, kc, la, ln, lc⟩).toArray 33))
  unfold Val.cells at HB ⊢
  go_enter Tryz.func12, Tryz.ntmps12
  go_wp2_with (go_at_call 16; refine (whole_any n _ h0 h1).mono ?_; rintro e w1 ⟨rfl, hb⟩)
  go_ret2
  exact ⟨rfl, (unhide HB).trans (hb.mono (by simp))⟩
set_option maxRecDepth 100000 in
set_option maxHeartbeats 400000 in
theorem shown_int64 (kd n : Int) (re : Nat) (tx : ByteArray) (ka : Option Addr) (kn kc : Nat) (la : Option Addr) (ln lc : Nat) (w : World) (h0 : -9223372036854775808 ≤ n) (h1 : n ≤ 9223372036854775807)
    (c1 : (kd == 1) = false) (c2 : (kd == 2) = false) (c3 : (kd == 3) = true) :
    Calls Tryz.prog 12 #[.agg (Val.cells ⟨kd, n, re, tx, ka, kn, kc, la, ln, lc⟩).toArray] w (ShownPost (some ⟨(Lib.itoa n).toArray⟩) w) := by
  have HB := hide ((Below.refl w.heap.size w).alloc (Nat.le_refl _) (.cells (Val.cells ⟨kd, n, re, tx, ka, kn, kc, la, ln, lc⟩).toArray 33))
  unfold Val.cells at HB ⊢
  go_enter Tryz.func12, Tryz.ntmps12
  go_wp2_with (go_at_call 16; refine (whole_any n _ h0 h1).mono ?_; rintro e w1 ⟨rfl, hb⟩)
  go_ret2
  exact ⟨rfl, (unhide HB).trans (hb.mono (by simp))⟩
set_option maxRecDepth 100000 in
set_option maxHeartbeats 400000 in
theorem shown_text (kd n : Int) (re : Nat) (tx : ByteArray) (ka : Option Addr) (kn kc : Nat) (la : Option Addr) (ln lc : Nat) (w : World)
    (c1 : (kd == 1) = false) (c2 : (kd == 2) = false) (c3 : (kd == 3) = false) (c5 : (kd == 5) = true) :
    Calls Tryz.prog 12 #[.agg (Val.cells ⟨kd, n, re, tx, ka, kn, kc, la, ln, lc⟩).toArray] w (ShownPost (some tx) w) := by
  have HB := hide ((Below.refl w.heap.size w).alloc (Nat.le_refl _) (.cells (Val.cells ⟨kd, n, re, tx, ka, kn, kc, la, ln, lc⟩).toArray 33))
  unfold Val.cells at HB ⊢
  go_enter Tryz.func12, Tryz.ntmps12
  go_wp2
  go_ret2
  exact ⟨rfl, unhide HB⟩
set_option maxRecDepth 100000 in
set_option maxHeartbeats 400000 in
theorem shown_none (kd n : Int) (re : Nat) (tx : ByteArray) (ka : Option Addr) (kn kc : Nat) (la : Option Addr) (ln lc : Nat) (w : World)
    (c1 : (kd == 1) = false) (c2 : (kd == 2) = false) (c3 : (kd == 3) = false) (c5 : (kd == 5) = false) :
    Calls Tryz.prog 12 #[.agg (Val.cells ⟨kd, n, re, tx, ka, kn, kc, la, ln, lc⟩).toArray] w (ShownPost none w) := by
  have HB := hide ((Below.refl w.heap.size w).alloc (Nat.le_refl _) (.cells (Val.cells ⟨kd, n, re, tx, ka, kn, kc, la, ln, lc⟩).toArray 33))
  unfold Val.cells at HB ⊢
  go_enter Tryz.func12, Tryz.ntmps12
  go_wp2
  go_ret2
  exact ⟨rfl, unhide HB⟩

theorem shown_any (v : Val) (w : World) (h0 : -9223372036854775808 ≤ v.n) (h1 : v.n ≤ 9223372036854775807) :
    Calls Tryz.prog 12 #[.agg v.cells.toArray] w (ShownPost v.shown w) := by
  obtain ⟨kd, n, re, tx, ka, kn, kc, la, ln, lc⟩ := v
  simp only at h0 h1
  unfold Val.shown
  simp only
  by_cases k1 : kd = 1
  · rw [if_pos k1]
    by_cases d1 : n = 1
    · rw [if_pos d1]
      exact shown_true _ _ _ _ _ _ _ _ _ _ _ (by rw [k1]; rfl) (by rw [d1]; rfl)
    · rw [if_neg d1]
      exact shown_false _ _ _ _ _ _ _ _ _ _ _ (by rw [k1]; rfl) (beq_eq_false_iff_ne.2 d1)
  rw [if_neg k1]
  by_cases k2 : kd = 2
  · rw [if_pos k2]
    exact shown_int _ _ _ _ _ _ _ _ _ _ _ h0 h1 (beq_eq_false_iff_ne.2 k1) (by rw [k2]; rfl)
  rw [if_neg k2]
  by_cases k3 : kd = 3
  · rw [if_pos k3]
    exact shown_int64 _ _ _ _ _ _ _ _ _ _ _ h0 h1 (beq_eq_false_iff_ne.2 k1) (beq_eq_false_iff_ne.2 k2) (by rw [k3]; rfl)
  rw [if_neg k3]
  by_cases k5 : kd = 5
  · rw [if_pos k5]
    exact shown_text _ _ _ _ _ _ _ _ _ _ _ (beq_eq_false_iff_ne.2 k1) (beq_eq_false_iff_ne.2 k2) (beq_eq_false_iff_ne.2 k3) (by rw [k5]; rfl)
  · rw [if_neg k5]
    exact shown_none _ _ _ _ _ _ _ _ _ _ _ (beq_eq_false_iff_ne.2 k1) (beq_eq_false_iff_ne.2 k2) (beq_eq_false_iff_ne.2 k3) (beq_eq_false_iff_ne.2 k5)
end Go.Proofs.YtcogodapgibceaaGreatDoor
