/-
  spec.Simple: where it says yes, there are at most 20 values, each nil, a bool, a whole number or a text of at most 500 bytes.
-/
import Derived.Test.YtcogodapgibceaaGreatDoorGoList
import Derived.Test.YtcogodapgibceaaGreatDoorUtf8
namespace Go.Proofs.YtcogodapgibceaaGreatDoor
open Go.RowKit

attribute [local go_sem] run_store_float

/-- What a yes says. -/
def Fine (vs : List Val) : Prop := vs.length ≤ 20 ∧ ∀ v ∈ vs, v.plainKind ∧ v.tx.size ≤ 500
def SimplePost (vs : List Val) (w : World) (e : Ending) (w' : World) : Prop := ∃ b : Bool, e = .returned (.bool b) ∧ (b = true → Fine vs) ∧ Below w.heap.size w w'
/-- The lengths are Go's. -/
def Val.okLen (v : Val) : Prop := v.tx.size ≤ maxLen ∧ v.kn ≤ maxLen ∧ v.ln ≤ maxLen

theorem more {vs : List Val} {k : Nat} {v : Val} (h : ∀ u ∈ vs.take k, u.plainKind ∧ u.tx.size ≤ 500) (ht : vs.take (k + 1) = vs.take k ++ [v]) (hk : v.plainKind) (hs : v.tx.size ≤ 500) :
    ∀ u ∈ vs.take (k + 1), u.plainKind ∧ u.tx.size ≤ 500 := by
  intro u hu
  rw [ht] at hu
  rcases List.mem_append.1 hu with h1 | h1
  · exact h u h1
  · obtain rfl := List.mem_singleton.1 h1
    exact ⟨hk, hs⟩

set_option maxRecDepth 100000 in
set_option maxHeartbeats 2000000 in
theorem simple_any (vs : List Val) (B : Nat) (A : Option Addr) (c : Nat) (w : World) (hr : Reads w B 6 A vs.length (vs.flatMap Val.cells)) (hB : B ≤ w.heap.size) (hn : vs.length ≤ 2147483647) (hl : ∀ v ∈ vs, v.okLen) :
    Calls Tryz.prog 4 #[.slice A vs.length c] w (SimplePost vs w) := by
  have HR := hide hr
  have HL := hide hl
  clear hr hl
  go_enter Tryz.func4, Tryz.ntmps4
  go_wp2
  go_loopw [7] (fun i wr => ∃ k : Nat, k ≤ vs.length ∧ i = .int .i64 k ∧ (∀ v ∈ vs.take k, v.plainKind ∧ v.tx.size ≤ 500) ∧ Below w.heap.size w wr) (fun i _ => vs.length - (intOf i).toNat)
  case atStart => exact ⟨0, Nat.zero_le _, rfl, by intro v hv; simp at hv, Below.refl _ _⟩
  case round =>
    obtain ⟨k, hk, rfl, hfine, hb⟩ := hrel
    have HF := hide hfine
    have HB := hide hb
    clear hfine hb
    by_cases hlt : k < vs.length
    · obtain ⟨ad, v, rfl, hbl, hv, hc0, hc1, hc2, hc3, hc4, hc5⟩ := reads_at6 (unhide HR) rfl hlt ((unhide HB).mono hB)
      have hvl := unhide HL v (List.mem_of_getElem? hv)
      have HT := hide (take_next hv)
      obtain ⟨hl1, hl2, hl3⟩ := hvl
      unfold maxLen at hl1 hl2 hl3
      clear hv
      go_wp2_with fail
      rotate_left
      · refine (utf8_any v.tx _ (by omega)).mono ?_
        rintro e w1 ⟨b, rfl, hb1⟩
        have hq0 : w1.cell? ⟨wr.heap.size, 0, none⟩ = some (.int .i64 v.kd) := (hb1.cell (p := ⟨wr.heap.size, 0, none⟩) (by simp)).trans (World.cell?_alloc_mark wr _ 33 (0, 0) 0)
        have hq1 : w1.cell? ⟨wr.heap.size, 1, none⟩ = some (.int .i64 v.n) := (hb1.cell (p := ⟨wr.heap.size, 1, none⟩) (by simp)).trans (World.cell?_alloc_mark wr _ 33 (0, 0) 1)
        have hq3 : w1.cell? ⟨wr.heap.size, 3, none⟩ = some (.string v.tx) := (hb1.cell (p := ⟨wr.heap.size, 3, none⟩) (by simp)).trans (World.cell?_alloc_mark wr _ 33 (0, 0) 3)
        have HB1 := hide (((unhide HB).alloc (unhide HB).size _).trans (hb1.mono (by have := (unhide HB).size; simp; omega)))
        have HM := hide (more (unhide HF) (unhide HT) (by unfold Val.plainKind; omega) (by omega))
        clear hb1
        cases b
        · go_wp2
          go_ret
          exact ⟨false, rfl, (fun h => by cases h), unhide HB1⟩
        · go_wp2
          all_goals first
            | (go_ret
               exact ⟨false, rfl, (fun h => by cases h), unhide HB1⟩)
            | (go_roundw
               case rel => exact ⟨k + 1, by omega, by go_num, unhide HM, unhide HB1⟩
               case measure => simp [intOf]; omega)
      all_goals
        go_ret
        exact ⟨false, rfl, (fun h => by cases h), (unhide HB).alloc (unhide HB).size _⟩
    · obtain rfl : k = vs.length := by omega
      rw [List.take_of_length_le (Nat.le_refl vs.length)] at HF
      go_wp2
      go_ret
      exact ⟨decide ((vs.length : Int) ≤ 20), rfl, fun h => ⟨by have := of_decide_eq_true h; omega, unhide HF⟩, unhide HB⟩
end Go.Proofs.YtcogodapgibceaaGreatDoor
