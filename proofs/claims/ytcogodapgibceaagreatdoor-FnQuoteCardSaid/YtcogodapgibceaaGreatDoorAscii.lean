/-
  spec.ASCII reports whether all bytes of a text lie below 128: for every text, the world as it was.
-/
import Derived.Test.YtcogodapgibceaaGreatDoorBase
namespace Go.Proofs.YtcogodapgibceaaGreatDoor
open Go.RowKit

/-- What spec.ASCII hands back. -/
def AsciiPost (s : ByteArray) (w : World) (e : Ending) (w' : World) : Prop := ∃ b : Bool, e = .returned (.bool b) ∧ (b = true → asc s.data.toList) ∧ w = w'

set_option maxRecDepth 100000 in
set_option maxHeartbeats 400000 in
theorem ascii_any (s : ByteArray) (w : World) (hs : s.size ≤ maxLen) : Calls Tryz.prog 6 #[.string s] w (AsciiPost s w) := by
  unfold maxLen at hs
  go_enter Tryz.func6, Tryz.ntmps6
  go_wp2
  go_loop [3] (fun i => ∃ k : Nat, k ≤ s.size ∧ i = .int .i64 k ∧ asc (s.data.toList.take k)) (fun i => s.size - (intOf i).toNat)
  case atStart => exact ⟨0, Nat.zero_le _, rfl, by intro c hc; simp at hc⟩
  case round =>
    obtain ⟨k, hk, rfl, ha⟩ := hrel
    have HA := hide ha
    clear ha
    by_cases hlt : k < s.size
    · by_cases hc : (s[k].toNat : Int) < 128
      · have HB := hide (asc_snoc (unhide HA) (c := s[k]) (by omega))
        rw [← take_snoc s k hlt] at HB
        go_wp2
        go_round
        case rel => exact ⟨k + 1, by omega, by go_num, unhide HB⟩
        case measure => simp [intOf]; omega
      · go_wp2
        go_ret
        exact ⟨false, rfl, (fun h => by cases h), rfl⟩
    · go_wp2
      go_ret
      exact ⟨true, rfl, fun _ => by rw [← List.take_of_length_le (l := s.data.toList) (i := k) (by simp; omega)]; exact unhide HA, rfl⟩
end Go.Proofs.YtcogodapgibceaaGreatDoor
