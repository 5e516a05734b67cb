/-
  The statement's own values9 at one text.
-/
import Derived.Test.YtcogodapgibceaaGreatDoorImpl
namespace Go.Proofs.YtcogodapgibceaaGreatDoor
open Go.RowKit

theorem info33 : (Tryz.prog.info? 33).map (fun i => (i.zero, i.size, i.bytes)) = some (some (.agg #[.int .i64 0, .int .i64 0, .float .f64 0, .string ⟨#[]⟩, .slice none 0 0, .slice none 0 0]), 6, 88) := by kernel_rfl

/-- A text as a value. -/
def textVal (s : ByteArray) : Val := ⟨5, 0, 0, s, none, 0, 0, none, 0, 0⟩

theorem cells_at (w : World) (cs : List Value) (t : TypeId) : ∀ (j : Nat) (u : Value), cs[j]? = some u → (w.alloc (.cells cs.toArray t)).cell? ((⟨w.heap.size, 0, none⟩ : Addr).add j) = some u := by
  intro j u hu
  rw [show (⟨w.heap.size, 0, none⟩ : Addr).add j = ⟨w.heap.size, j, none⟩ by unfold Addr.add; split <;> simp_all]
  refine (World.cell?_alloc_mark w cs.toArray t (0, 0) j).trans ?_
  simpa using hu

set_option maxRecDepth 100000 in
set_option maxHeartbeats 1000000 in
theorem values_one (s : ByteArray) (B : Nat) (A : Option Addr) (c : Nat) (w : World) (hr : Reads w B 1 A 1 [.string s]) (hB : B ≤ w.heap.size) :
    Calls Tryz.prog 10 #[.slice A 1 c] w fun e w' => ∃ v, e = .returned v ∧ w'.ownsRow w.heap.size 33 6 v 1 (textVal s).cells ∧ Below w.heap.size w w' := by
  obtain ⟨i0, hi0, hz0, hz1, hz2⟩ := info_parts info33
  have HR := hide hr
  clear hr
  go_enter Tryz.func10, Tryz.ntmps10
  go_wp2
  go_loopw [3, 7] (fun o i wr => ∃ k : Nat, k ≤ 1 ∧ i = .int .i64 k ∧ wr.ownsRow w.heap.size 33 6 o k ((textVal s).cells.take (k * 6)) ∧ Below w.heap.size w wr) (fun _ i _ => 1 - (intOf i).toNat)
  case atStart => exact ⟨0, Nat.zero_le _, rfl, World.ownsRow_nil w _ _ _, Below.refl _ _⟩
  case round =>
    obtain ⟨k, hk, rfl, hown, hb⟩ := hrel
    have HO := hide hown
    have HB := hide hb
    clear hown hb
    by_cases hlt : k < 1
    · obtain rfl : k = 0 := by omega
      obtain ⟨ad, u, rfl, hbl, hu, hcell⟩ := ((unhide HR).below ((unhide HB).mono hB)).at_ (k := 0) (by omega)
      obtain rfl : Value.string s = u := by simpa using hu
      clear hu
      have hcell0 : wr.cell? ad = some (.string s) := hcell
      clear hcell
      go_wp2_with (at_builtin; refine wpList_append_own _ rfl _ _ 22 rfl w.heap.size 33 i0 _ 6 88 Tryz.underlying22 hi0 hz0 hz1 hz2 rfl (by decide) _ _ _ rfl ((unhide HO).alloc _) ⟨wr.heap.size, 0, none⟩ 1 1 (textVal s).cells rfl rfl ?c1 ?c2 ?c3 ?c4 ?c5 ?_)
      case c1 => exact cells_at wr (textVal s).cells 33
      case c2 => intro z hz
                 simp only [Val.cells, textVal, List.mem_cons, List.mem_nil_iff, or_false] at hz
                 rcases hz with rfl | rfl | rfl | rfl | rfl | rfl <;> rfl
      case c3 => unfold maxLen; omega
      case c4 => omega
      case c5 => exact Nat.le_trans (unhide HB).size (by simp)
      intro v' w2 hown2 hg2 _
      have HO2 := hide hown2
      have HB2 := hide (((unhide HB).alloc (unhide HB).size _).grown hg2 (Nat.le_trans (unhide HB).size (by simp)) fun g hg => ((unhide HO).lt g hg).1)
      clear hown2 hg2
      go_wp2
      go_roundw
      case rel => exact ⟨1, by omega, by go_num, unhide HO2, unhide HB2⟩
      case measure => simp [intOf]
    · obtain rfl : k = 1 := by omega
      go_wp2
      go_ret
      exact ⟨_, rfl, unhide HO, unhide HB⟩
end Go.Proofs.YtcogodapgibceaaGreatDoor
