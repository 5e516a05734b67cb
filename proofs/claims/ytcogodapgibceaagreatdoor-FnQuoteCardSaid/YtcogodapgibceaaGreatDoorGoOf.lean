/-
  impl.goOf: a simple value (nil, a bool, an int, an int64, a text) as Go has it.
-/
import Derived.Test.YtcogodapgibceaaGreatDoorShownAll
namespace Go.Proofs.YtcogodapgibceaaGreatDoor
open Go.RowKit

/-- A value as Go has it, behind an interface. -/
def Val.goV (v : Val) : Value :=
  if v.kd = 0 then .nilIface
  else if v.kd = 1 then .iface 4 (.bool (v.n == 1))
  else if v.kd = 2 then .iface 3 (.int .i64 v.n)
  else if v.kd = 3 then .iface 2 (.int .i64 v.n)
  else .iface 9 (.string v.tx)

def GoOfPost (x : Value) (w : World) (e : Ending) (w' : World) : Prop := e = .returned (.tuple #[x, .bool true]) ∧ Below w.heap.size w w'

set_option maxRecDepth 100000 in
set_option maxHeartbeats 400000 in
theorem goOf_nil (kd n : Int) (re : Nat) (tx : ByteArray) (ka : Option Addr) (kn kc : Nat) (la : Option Addr) (ln lc : Nat) (w : World)
    (c0 : (kd == 0) = true) :
    Calls Tryz.prog 17 #[.agg (Val.cells ⟨kd, n, re, tx, ka, kn, kc, la, ln, lc⟩).toArray] w (GoOfPost .nilIface w) := by
  have HB := hide ((Below.refl w.heap.size w).alloc (Nat.le_refl _) (.cells (Val.cells ⟨kd, n, re, tx, ka, kn, kc, la, ln, lc⟩).toArray 33))
  unfold Val.cells at HB ⊢
  go_enter Tryz.func17, Tryz.ntmps17
  go_wp2
  go_ret2
  exact ⟨rfl, unhide HB⟩
set_option maxRecDepth 100000 in
set_option maxHeartbeats 400000 in
theorem goOf_bool (kd n : Int) (re : Nat) (tx : ByteArray) (ka : Option Addr) (kn kc : Nat) (la : Option Addr) (ln lc : Nat) (w : World)
    (c0 : (kd == 0) = false) (c1 : (kd == 1) = true) :
    Calls Tryz.prog 17 #[.agg (Val.cells ⟨kd, n, re, tx, ka, kn, kc, la, ln, lc⟩).toArray] w (GoOfPost (.iface 4 (.bool (n == 1))) w) := by
  have HB := hide ((Below.refl w.heap.size w).alloc (Nat.le_refl _) (.cells (Val.cells ⟨kd, n, re, tx, ka, kn, kc, la, ln, lc⟩).toArray 33))
  unfold Val.cells at HB ⊢
  go_enter Tryz.func17, Tryz.ntmps17
  go_wp2
  go_ret2
  exact ⟨rfl, unhide HB⟩
set_option maxRecDepth 100000 in
set_option maxHeartbeats 400000 in
theorem goOf_int (kd n : Int) (re : Nat) (tx : ByteArray) (ka : Option Addr) (kn kc : Nat) (la : Option Addr) (ln lc : Nat) (w : World)
    (c0 : (kd == 0) = false) (c1 : (kd == 1) = false) (c2 : (kd == 2) = true) :
    Calls Tryz.prog 17 #[.agg (Val.cells ⟨kd, n, re, tx, ka, kn, kc, la, ln, lc⟩).toArray] w (GoOfPost (.iface 3 (.int .i64 n)) w) := by
  have HB := hide ((Below.refl w.heap.size w).alloc (Nat.le_refl _) (.cells (Val.cells ⟨kd, n, re, tx, ka, kn, kc, la, ln, lc⟩).toArray 33))
  unfold Val.cells at HB ⊢
  go_enter Tryz.func17, Tryz.ntmps17
  go_wp2
  go_ret2
  exact ⟨rfl, unhide HB⟩
set_option maxRecDepth 100000 in
set_option maxHeartbeats 400000 in
theorem goOf_int64 (kd n : Int) (re : Nat) (tx : ByteArray) (ka : Option Addr) (kn kc : Nat) (la : Option Addr) (ln lc : Nat) (w : World)
    (c0 : (kd == 0) = false) (c1 : (kd == 1) = false) (c2 : (kd == 2) = false) (c3 : (kd == 3) = true) :
    Calls Tryz.prog 17 #[.agg (Val.cells ⟨kd, n, re, tx, ka, kn, kc, la, ln, lc⟩).toArray] w (GoOfPost (.iface 2 (.int .i64 n)) w) := by
  have HB := hide ((Below.refl w.heap.size w).alloc (Nat.le_refl _) (.cells (Val.cells ⟨kd, n, re, tx, ka, kn, kc, la, ln, lc⟩).toArray 33))
  unfold Val.cells at HB ⊢
  go_enter Tryz.func17, Tryz.ntmps17
  go_wp2
  go_ret2
  exact ⟨rfl, unhide HB⟩
set_option maxRecDepth 100000 in
set_option maxHeartbeats 400000 in
theorem goOf_text (kd n : Int) (re : Nat) (tx : ByteArray) (ka : Option Addr) (kn kc : Nat) (la : Option Addr) (ln lc : Nat) (w : World)
    (c0 : (kd == 0) = false) (c1 : (kd == 1) = false) (c2 : (kd == 2) = false) (c3 : (kd == 3) = false) (c4 : (kd == 4) = false) (c5 : (kd == 5) = true) :
    Calls Tryz.prog 17 #[.agg (Val.cells ⟨kd, n, re, tx, ka, kn, kc, la, ln, lc⟩).toArray] w (GoOfPost (.iface 9 (.string tx)) w) := by
  have HB := hide ((Below.refl w.heap.size w).alloc (Nat.le_refl _) (.cells (Val.cells ⟨kd, n, re, tx, ka, kn, kc, la, ln, lc⟩).toArray 33))
  unfold Val.cells at HB ⊢
  go_enter Tryz.func17, Tryz.ntmps17
  go_wp2
  go_ret2
  exact ⟨rfl, unhide HB⟩

/-- nil, a bool, an int, an int64 or a text. -/
def Val.plainKind (v : Val) : Prop := v.kd = 0 ∨ v.kd = 1 ∨ v.kd = 2 ∨ v.kd = 3 ∨ v.kd = 5

theorem goOf_any (v : Val) (w : World) (h : v.plainKind) : Calls Tryz.prog 17 #[.agg v.cells.toArray] w (GoOfPost v.goV w) := by
  obtain ⟨kd, n, re, tx, ka, kn, kc, la, ln, lc⟩ := v
  unfold Val.plainKind at h
  simp only at h
  rcases h with rfl | rfl | rfl | rfl | rfl
  · exact goOf_nil _ _ _ _ _ _ _ _ _ _ _ rfl
  · exact goOf_bool _ _ _ _ _ _ _ _ _ _ _ rfl rfl
  · exact goOf_int _ _ _ _ _ _ _ _ _ _ _ rfl rfl rfl
  · exact goOf_int64 _ _ _ _ _ _ _ _ _ _ _ rfl rfl rfl rfl
  · exact goOf_text _ _ _ _ _ _ _ _ _ _ _ rfl rfl rfl rfl rfl rfl
end Go.Proofs.YtcogodapgibceaaGreatDoor
