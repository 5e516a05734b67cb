/-
  sprig's strval: the text of a bool, an int, an int64 or a text.
-/
import Derived.Test.YtcogodapgibceaaGreatDoorGoList
import Derived.Test.YtcogodapgibceaaGreatDoorShelf
import Derived.Lib.AppendIntMem
import Derived.Lib.PrintData
namespace Go.Proofs.YtcogodapgibceaaGreatDoor
open Go.RowKit

/-- THE LIBRARY's TABLES THAT THE CALLS READ, as their initialisers lay them. -/
def Tabs (w : World) : Prop :=
  Lib.TabIs Tryz.prog w "internal/strconv.uint64pow10" .u64 Lib.pow10Tab ∧ Lib.PrintTabsAt 3 4 5 6 Lib.goPrintTabs w ∧ Lib.Utf8Tabs 1 2 w
theorem Tabs.below {w w' : World} (h : Tabs w) (hb : Below w.heap.size w w') : Tabs w' :=
  ⟨(Lib.tabBelow_of_tabIs h.1 w' hb), printTabs_below h.2.1 hb, Utf8Tabs_below h.2.2 hb⟩

/-- The text of a value as Go has it. -/
def TextPost (s : ByteArray) (w : World) (e : Ending) (w' : World) : Prop := e = .returned (.string s) ∧ Below w.heap.size w w'

theorem as_9 (v : Value) (w : World) : (Instr.typeAssert (.iface 9 v) 20 9 true).run Tryz.prog w = .ok (.tuple #[v, .bool true]) w := by kernel_rfl
theorem as_4 (v : Value) (w : World) : (Instr.typeAssert (.iface 4 v) 20 4 true).run Tryz.prog w = .ok (.tuple #[v, .bool true]) w := by kernel_rfl
theorem as_3 (v : Value) (w : World) : (Instr.typeAssert (.iface 3 v) 20 3 true).run Tryz.prog w = .ok (.tuple #[v, .bool true]) w := by kernel_rfl
theorem as_2 (v : Value) (w : World) : (Instr.typeAssert (.iface 2 v) 20 2 true).run Tryz.prog w = .ok (.tuple #[v, .bool true]) w := by kernel_rfl
theorem not_4_9 (v : Value) (w : World) : (Instr.typeAssert (.iface 4 v) 20 9 true).run Tryz.prog w = .ok (.tuple #[.string ⟨#[]⟩, .bool false]) w := by kernel_rfl
theorem not_4_47 (v : Value) (w : World) : (Instr.typeAssert (.iface 4 v) 20 47 true).run Tryz.prog w = .ok (.tuple #[.slice none 0 0, .bool false]) w := by kernel_rfl
theorem not_3_9 (v : Value) (w : World) : (Instr.typeAssert (.iface 3 v) 20 9 true).run Tryz.prog w = .ok (.tuple #[.string ⟨#[]⟩, .bool false]) w := by kernel_rfl
theorem not_3_47 (v : Value) (w : World) : (Instr.typeAssert (.iface 3 v) 20 47 true).run Tryz.prog w = .ok (.tuple #[.slice none 0 0, .bool false]) w := by kernel_rfl
theorem not_2_9 (v : Value) (w : World) : (Instr.typeAssert (.iface 2 v) 20 9 true).run Tryz.prog w = .ok (.tuple #[.string ⟨#[]⟩, .bool false]) w := by kernel_rfl
theorem not_2_47 (v : Value) (w : World) : (Instr.typeAssert (.iface 2 v) 20 47 true).run Tryz.prog w = .ok (.tuple #[.slice none 0 0, .bool false]) w := by kernel_rfl
theorem not_3_4 (v : Value) (w : World) : (Instr.typeAssert (.iface 3 v) 20 4 true).run Tryz.prog w = .ok (.tuple #[.bool false, .bool false]) w := by kernel_rfl
theorem not_2_4 (v : Value) (w : World) : (Instr.typeAssert (.iface 2 v) 20 4 true).run Tryz.prog w = .ok (.tuple #[.bool false, .bool false]) w := by kernel_rfl
theorem not_2_3 (v : Value) (w : World) : (Instr.typeAssert (.iface 2 v) 20 3 true).run Tryz.prog w = .ok (.tuple #[.int .i64 0, .bool false]) w := by kernel_rfl

set_option maxRecDepth 100000 in
set_option maxHeartbeats 400000 in
theorem zz_bool (b : Bool) (w : World) : Calls Tryz.prog 25 #[.iface 4 (.bool b)] w (TextPost ⟨(Lib.formatBool b).toArray⟩ w) := by
  have a1 := fun v => as_4 v w
  go_enter Tryz.func25, Tryz.ntmps25
  go_wp2_with (go_at_call 30; refine (Tryz.strconv_FormatBool b _).mono ?_; rintro e w' ⟨rfl, rfl⟩)
  go_ret
  exact ⟨rfl, Below.refl _ _⟩
set_option maxRecDepth 100000 in
set_option maxHeartbeats 400000 in
theorem zz_int (n : Int) (w : World) (h0 : -9223372036854775808 ≤ n) (h1 : n ≤ 9223372036854775807) (hT : Tabs w) : Calls Tryz.prog 25 #[.iface 3 (.int .i64 n)] w (TextPost ⟨(Lib.itoa n).toArray⟩ w) := by
  have a1 := fun v => not_3_4 v w
  have a2 := fun v => as_3 v w
  have HT := hide hT.1
  clear hT
  go_enter Tryz.func25, Tryz.ntmps25
  go_wp2_with (go_at_call 31; refine (Tryz.strconv_Itoa n h0 h1 _ (unhide HT)).mono ?_; rintro e w' ⟨rfl, k, os, rfl⟩)
  go_ret
  exact ⟨rfl, Lib.below_grow _ w (Nat.le_refl _) k os⟩
set_option maxRecDepth 100000 in
set_option maxHeartbeats 400000 in
theorem zz_int64 (n : Int) (w : World) (h0 : -9223372036854775808 ≤ n) (h1 : n ≤ 9223372036854775807) (hT : Tabs w) : Calls Tryz.prog 25 #[.iface 2 (.int .i64 n)] w (TextPost ⟨(Lib.itoa n).toArray⟩ w) := by
  have a1 := fun v => not_2_4 v w
  have a2 := fun v => not_2_3 v w
  have a3 := fun v => as_2 v w
  have HT := hide hT.1
  clear hT
  go_enter Tryz.func25, Tryz.ntmps25
  go_wp2_with (go_at_call 32; refine (Tryz.strconv_FormatInt_10 n h0 h1 _ (unhide HT)).mono ?_; rintro e w' ⟨rfl, k, os, rfl⟩)
  go_ret
  exact ⟨rfl, Lib.below_grow _ w (Nat.le_refl _) k os⟩

set_option maxRecDepth 100000 in
theorem strval_text (s : ByteArray) (w : World) : Calls Tryz.prog 22 #[.iface 9 (.string s)] w (TextPost s w) := by
  have a1 := fun v => as_9 v w
  go_enter Tryz.func22, Tryz.ntmps22
  go_wp2
  go_ret
  exact ⟨rfl, Below.refl _ _⟩
set_option maxRecDepth 100000 in
theorem strval_bool (b : Bool) (w : World) : Calls Tryz.prog 22 #[.iface 4 (.bool b)] w (TextPost ⟨(Lib.formatBool b).toArray⟩ w) := by
  have a1 := fun v => not_4_9 v w
  have a2 := fun v => not_4_47 v w
  go_enter Tryz.func22, Tryz.ntmps22
  go_wp2_with (go_at_call 25; refine (zz_bool b _).mono ?_; rintro e w' ⟨rfl, hb⟩)
  go_ret
  exact ⟨rfl, hb⟩
set_option maxRecDepth 100000 in
theorem strval_int (n : Int) (w : World) (h0 : -9223372036854775808 ≤ n) (h1 : n ≤ 9223372036854775807) (hT : Tabs w) : Calls Tryz.prog 22 #[.iface 3 (.int .i64 n)] w (TextPost ⟨(Lib.itoa n).toArray⟩ w) := by
  have a1 := fun v => not_3_9 v w
  have a2 := fun v => not_3_47 v w
  go_enter Tryz.func22, Tryz.ntmps22
  go_wp2_with (go_at_call 25; refine (zz_int n _ h0 h1 hT).mono ?_; rintro e w' ⟨rfl, hb⟩)
  go_ret
  exact ⟨rfl, hb⟩
set_option maxRecDepth 100000 in
theorem strval_int64 (n : Int) (w : World) (h0 : -9223372036854775808 ≤ n) (h1 : n ≤ 9223372036854775807) (hT : Tabs w) : Calls Tryz.prog 22 #[.iface 2 (.int .i64 n)] w (TextPost ⟨(Lib.itoa n).toArray⟩ w) := by
  have a1 := fun v => not_2_9 v w
  have a2 := fun v => not_2_47 v w
  go_enter Tryz.func22, Tryz.ntmps22
  go_wp2_with (go_at_call 25; refine (zz_int64 n _ h0 h1 hT).mono ?_; rintro e w' ⟨rfl, hb⟩)
  go_ret
  exact ⟨rfl, hb⟩

theorem true_text : (⟨(Lib.formatBool true).toArray⟩ : ByteArray) = ⟨#[116, 114, 117, 101]⟩ := by decide +kernel
theorem false_text : (⟨(Lib.formatBool false).toArray⟩ : ByteArray) = ⟨#[102, 97, 108, 115, 101]⟩ := by decide +kernel

/-- The text of a value that is not nil: as spec.Shown writes it. -/
theorem strval_any (v : Val) (s : ByteArray) (w : World) (hk : v.plainKind) (hi : v.okInt) (hs : v.shown = some s) (hT : Tabs w) : Calls Tryz.prog 22 #[v.goV] w (TextPost s w) := by
  obtain ⟨kd, n, re, tx, ka, kn, kc, la, ln, lc⟩ := v
  unfold Val.plainKind at hk
  unfold Val.okInt at hi
  simp only at hk hi
  rcases hk with rfl | rfl | rfl | rfl | rfl
  · simp [Val.shown] at hs
  · by_cases h : n = 1
    · subst h
      simp only [Val.shown, if_true] at hs
      injection hs with hs
      rw [← hs, ← true_text]
      exact strval_bool true w
    · simp only [Val.shown, if_true, if_neg h] at hs
      injection hs with hs
      rw [← hs, ← false_text]
      have e : Val.goV ⟨1, n, re, tx, ka, kn, kc, la, ln, lc⟩ = .iface 4 (.bool false) := by simp [Val.goV, h]
      rw [e]
      exact strval_bool false w
  · have e : s = ⟨(Lib.itoa n).toArray⟩ := by simp [Val.shown] at hs; exact hs.symm
    rw [e]
    exact strval_int n w hi.1 hi.2 hT
  · have e : s = ⟨(Lib.itoa n).toArray⟩ := by simp [Val.shown] at hs; exact hs.symm
    rw [e]
    exact strval_int64 n w hi.1 hi.2 hT
  · have e : s = tx := by simp [Val.shown] at hs; exact hs.symm
    rw [e]
    exact strval_text tx w
theorem goV_none {v : Val} (hk : v.plainKind) (h : v.shown = none) : v.goV = .nilIface := by
  obtain ⟨kd, n, re, tx, ka, kn, kc, la, ln, lc⟩ := v
  unfold Val.plainKind at hk
  simp only at hk
  rcases hk with rfl | rfl | rfl | rfl | rfl
  · rfl
  · simp only [Val.shown, if_true] at h
    split at h <;> cases h
  · simp [Val.shown] at h
  · simp [Val.shown] at h
  · simp [Val.shown] at h
theorem goV_some {v : Val} {s : ByteArray} (hk : v.plainKind) (h : v.shown = some s) : ∃ t u, v.goV = .iface t u := by
  obtain ⟨kd, n, re, tx, ka, kn, kc, la, ln, lc⟩ := v
  unfold Val.plainKind at hk
  simp only at hk
  rcases hk with rfl | rfl | rfl | rfl | rfl
  · simp [Val.shown] at h
  · exact ⟨_, _, rfl⟩
  · exact ⟨_, _, rfl⟩
  · exact ⟨_, _, rfl⟩
  · exact ⟨_, _, rfl⟩
end Go.Proofs.YtcogodapgibceaaGreatDoor
