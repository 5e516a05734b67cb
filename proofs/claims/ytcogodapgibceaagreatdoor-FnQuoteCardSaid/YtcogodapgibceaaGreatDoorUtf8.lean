/-
  spec.UTF8 hands back a bool for every text of at most 500 bytes; memory that was there stays as it was.
-/
import Derived.Test.YtcogodapgibceaaGreatDoorBase
import Derived.Laws.Cover4
import Derived.Laws.IdiomStrings
namespace Go.Proofs.YtcogodapgibceaaGreatDoor
open Go.RowKit

/-- Some bool, and what was there stays. -/
def SomeBool (w : World) (e : Ending) (w' : World) : Prop := ∃ b : Bool, e = .returned (.bool b) ∧ Below w.heap.size w w'

def SomeTwo (w : World) (e : Ending) (w' : World) : Prop := ∃ (v : Value) (b : Bool), e = .returned (.tuple #[v, .bool b]) ∧ Below w.heap.size w w'

theorem width_pos (s : ByteArray) (pos : Nat) (h : pos < s.size) : 1 ≤ (Utf8.decode s pos).2 := by
  by_cases ha : (s[pos]'h).toNat < 128
  · rw [decode_ascii s pos h ha]
    exact Nat.le_refl _
  · exact (decode_high s pos h (by omega)).2

set_option maxRecDepth 100000 in
set_option maxHeartbeats 400000 in
theorem replaced_any (s : ByteArray) (w : World) (hs : s.size ≤ 500) : Calls Tryz.prog 19 #[.string s] w (SomeBool w) := by
  go_enter Tryz.func19, Tryz.ntmps19
  go_wp2
  go_loopw [2] (fun _ w' => ∃ pos : Nat, w' = w.iter s pos) (fun _ w' => s.size - w'.iterPos w.heap.size)
  case atStart => exact ⟨0, rfl⟩
  case round =>
    obtain ⟨pos, rfl⟩ := hrel
    by_cases hp : pos < s.size
    · have hnx : ∀ ty, (Instr.next (.pointer (some ⟨w.heap.size, 0, none⟩)) true ty).run Tryz.prog (w.iter s pos) = _ := fun ty => run_next_any w s pos ty hp
      have hwd := width_pos s pos hp
      have HB := hide ((Below.refl w.heap.size w).alloc (Nat.le_refl _) (.stringIter s (pos + (Utf8.decode s pos).2)))
      generalize hd : Utf8.decode s pos = d at hnx hwd HB
      clear hd
      obtain ⟨d1, d2⟩ := d
      simp only at hnx hwd HB
      by_cases h1 : (d1 : Int) = 65533
      · have h1b : ((d1 : Int) == 65533) = true := by rw [h1]; rfl
        clear h1
        by_cases h2 : (s.size : Int) - pos < 3
        · go_wp2
          go_ret
          exact ⟨true, rfl, unhide HB⟩
        · go_wp2
          · go_ret
            exact ⟨true, rfl, unhide HB⟩
          · go_roundw
            case rel => exact ⟨_, rfl⟩
            case measure => simp; omega
      · have h1b : ((d1 : Int) == 65533) = false := by rw [beq_eq_false_iff_ne]; exact h1
        clear h1
        go_wp2
        go_roundw
        case rel => exact ⟨_, rfl⟩
        case measure => simp; omega
    · have hnx : ∀ ty, (Instr.next (.pointer (some ⟨w.heap.size, 0, none⟩)) true ty).run Tryz.prog (w.iter s pos) = _ := fun ty => run_next_end w s pos ty hp
      have HB := hide ((Below.refl w.heap.size w).alloc (Nat.le_refl _) (.stringIter s pos))
      go_wp2
      go_ret
      exact ⟨false, rfl, unhide HB⟩

/-- The code points are whole numbers, as a list. -/
theorem runes_ints (s : ByteArray) : ∀ (bound i : Nat) (zs : List Int), ∃ zs' : List Int, Conv.runesFrom s bound i (zs.map (Value.int .i32)).toArray = (zs'.map (Value.int .i32)).toArray
  | 0, _, zs => ⟨zs, by simp [Conv.runesFrom]⟩
  | bound + 1, i, zs => by
    unfold Conv.runesFrom
    split
    · obtain ⟨zs', h⟩ := runes_ints s bound (i + (Utf8.decode s i).2) (zs ++ [Int.ofNat (Utf8.decode s i).1])
      exact ⟨zs', by rw [← h]; simp⟩
    · exact ⟨zs, rfl⟩

/-- '[]rune(s)', and 'string(l)' of what it gives. -/
theorem runes_of (s : ByteArray) (w : World) (hs : s.size ≤ 500) : ∃ (n cap : Nat) (C : Array Value) (t : ByteArray),
    (convert 9 41 (.string s)).run Tryz.prog w = .ok (.slice (some ⟨w.heap.size, 0, none⟩) n cap) (w.alloc (.cells C 21)).drew ∧
    (convert 41 9 (.slice (some ⟨w.heap.size, 0, none⟩) n cap)).run Tryz.prog (w.alloc (.cells C 21)).drew = .ok (.string t) (w.alloc (.cells C 21)).drew := by
  have h46 : (Conv.runesFrom s s.size 0 #[]).size ≤ 70368744177664 := by
    have := size_runesFrom s s.size 0 #[]
    simp only [Array.size_empty] at this
    omega
  obtain ⟨zs, hz⟩ := runes_ints s s.size 0 []
  rw [show ([] : List Int).map (Value.int .i32) = [] from rfl, show ([] : List Value).toArray = #[] from rfl] at hz
  have h1 := run_runes_of_string (P := Tryz.prog) w 9 41 21 s Tryz.underlying9 Tryz.underlying41 Tryz.underlying21 h46
  refine ⟨_, _, _, _, h1, run_convert_runes (P := Tryz.prog) (w.alloc (.cells _ 21)).drew 41 9 21 _ _ _ zs (by rw [hz]; simp) Tryz.underlying41 Tryz.underlying21 Tryz.underlying9 (fun j hj => ?_)⟩
  rw [show (⟨w.heap.size, 0, none⟩ : Addr).add j = ⟨w.heap.size, j, none⟩ by unfold Addr.add; split <;> simp_all]
  refine (World.cell?_alloc_mark w.drew _ 21 (0, 0) j).trans ?_
  rw [Array.getElem?_append_left (by rw [hz]; simpa using hj), hz]
  simp [List.getElem?_eq_getElem hj]

set_option maxRecDepth 100000 in
set_option maxHeartbeats 400000 in
theorem points_any (s : ByteArray) (w : World) (hs : s.size ≤ 500) :
    Calls Tryz.prog 15 #[.string s] w (SomeTwo w) := by
  obtain ⟨n, cap, C, t, h1, h2⟩ := runes_of s w hs
  have HB := hide ((Below.refl w.heap.size w).alloc (Nat.le_refl _) (.cells C 21)).drew
  go_enter Tryz.func15, Tryz.ntmps15
  go_wp2_with (go_at_call 19; refine (replaced_any s _ hs).mono ?_; rintro e w' ⟨b, rfl, hb⟩)
  · go_ret2
    exact ⟨_, _, rfl, (unhide HB).trans (hb.mono (by simp))⟩
  · go_ret2
    exact ⟨_, _, rfl, unhide HB⟩

set_option maxRecDepth 100000 in
theorem utf8_any (s : ByteArray) (w : World) (hs : s.size ≤ 500) : Calls Tryz.prog 11 #[.string s] w (SomeBool w) := by
  go_enter Tryz.func11, Tryz.ntmps11
  go_wp2_with (go_at_call 15; refine (points_any s _ hs).mono ?_; rintro e w' ⟨v, b, rfl, hb⟩)
  go_ret
  exact ⟨_, rfl, hb⟩
end Go.Proofs.YtcogodapgibceaaGreatDoor
