/-
  impl.Quote at at most 20 simple values.
-/
import Derived.Test.YtcogodapgibceaaGreatDoorSprigQuote
namespace Go.Proofs.YtcogodapgibceaaGreatDoor
open Go.RowKit

theorem own_slice {w : World} {base n size : Nat} {e : TypeId} {v : Value} {xs : List Value} (h : w.ownsRow base e size v n xs) : ∃ A c, v = .slice A n c := by
  rcases h.2 with ⟨rfl, rfl⟩ | ⟨g, cap, cur, rfl, _⟩
  · exact ⟨none, 0, rfl⟩
  · exact ⟨_, cap, rfl⟩

set_option maxRecDepth 100000 in
set_option maxHeartbeats 400000 in
theorem sprigQuoteDoor_any (vs : List Val) (B : Nat) (A : Option Addr) (c : Nat) (w : World) (hr : Reads w B 1 A vs.length (vs.map Val.goV)) (hB : B ≤ w.heap.size) (hn : vs.length ≤ 20) (hp : ∀ v ∈ vs, v.plainKind) (hi : ∀ v ∈ vs, v.okInt)
    (hs : ∀ s ∈ shownL vs, s.size ≤ 500) (hT : Tabs w) :
    Calls Tryz.prog 14 #[.slice A vs.length c] w (TextPost (joinB ((shownL vs).map qz)) w) := by
  have HC := hide (sprigQuote_any vs B A c w hr hB hn hp hi hs hT)
  clear hr hp hi hs hT
  go_enter Tryz.func14, Tryz.ntmps14
  go_wp2_with (go_at_call 18; refine (unhide HC).mono ?_; rintro e w2 ⟨rfl, hb2⟩)
  go_ret
  exact ⟨rfl, hb2⟩

set_option maxRecDepth 100000 in
set_option maxHeartbeats 400000 in
theorem implQuote_any (vs : List Val) (B : Nat) (A : Option Addr) (c : Nat) (w : World) (hr : Reads w B 6 A vs.length (vs.flatMap Val.cells)) (hB : B ≤ w.heap.size) (hn : vs.length ≤ 20) (hp : ∀ v ∈ vs, v.plainKind) (hi : ∀ v ∈ vs, v.okInt)
    (hs : ∀ s ∈ shownL vs, s.size ≤ 500) (hT : Tabs w) :
    Calls Tryz.prog 8 #[.slice A vs.length c] w (TextPost (joinB ((shownL vs).map qz)) w) := by
  have HL := hide (goList_any vs B A c w hr hB hn hp)
  have HD := hide (fun (A' : Option Addr) (c' : Nat) (w1 : World) (hr1 : Reads w1 w1.heap.size 1 A' vs.length (vs.map Val.goV)) (hT1 : Tabs w1) => sprigQuoteDoor_any vs w1.heap.size A' c' w1 hr1 (Nat.le_refl _) hn hp hi hs hT1)
  have HT := hide hT
  clear hr hp hi hs hT
  go_enter Tryz.func8, Tryz.ntmps8
  go_wp2_with fail
  refine (unhide HL).mono ?_
  rintro e w1 ⟨v, rfl, hown, hb⟩
  obtain ⟨A', c', rfl⟩ := own_slice hown
  have HR1 := hide (Reads.of_own hown)
  have HB1 := hide hb
  clear hown hb
  go_wp2_with (go_at_call 14; refine (unhide HD _ _ _ (unhide HR1) ((unhide HT).below (unhide HB1))).mono ?_; rintro e w2 ⟨rfl, hb2⟩)
  go_ret
  exact ⟨rfl, (unhide HB1).trans (hb2.mono (unhide HB1).size)⟩
end Go.Proofs.YtcogodapgibceaaGreatDoor
