/-
  impl.goList: at most 20 simple values as a list of Go's own.
-/
import Derived.Test.YtcogodapgibceaaGreatDoorGoOf
namespace Go.Proofs.YtcogodapgibceaaGreatDoor
open Go.RowKit

theorem info20 : (Tryz.prog.info? 20).map (fun i => (i.zero, i.size, i.bytes)) = some (some .nilIface, 1, 16) := by kernel_rfl

theorem run_store_float (P : Program) (w : World) (a : Addr) (m : Mode) (k : FloatKind) (b : Nat) : (store a (.float k b) m).run P w = stored P w a (.float k b) m := run_store P w a _ m rfl
attribute [local go_sem] run_store_float

theorem goV_cases (v : Val) : v.goV = .nilIface ∨ ∃ t u, v.goV = .iface t u := by
  unfold Val.goV
  repeat' split
  all_goals first | exact Or.inl rfl | exact Or.inr ⟨_, _, rfl⟩
theorem goV_one (v : Val) : v.goV.oneCell' = true := by
  unfold Val.goV
  repeat' split
  all_goals rfl

set_option maxRecDepth 100000 in
set_option maxHeartbeats 1000000 in
theorem goList_any (vs : List Val) (B : Nat) (A : Option Addr) (c : Nat) (w : World) (hr : Reads w B 6 A vs.length (vs.flatMap Val.cells)) (hB : B ≤ w.heap.size) (hn : vs.length ≤ 20) (hp : ∀ v ∈ vs, v.plainKind) :
    Calls Tryz.prog 13 #[.slice A vs.length c] w fun e w' => ∃ v, e = .returned (.tuple #[v, .bool true]) ∧ w'.ownsRow w.heap.size 20 1 v vs.length (vs.map Val.goV) ∧ Below w.heap.size w w' := by
  obtain ⟨i0, hi0, hz0, hz1, hz2⟩ := info_parts info20
  have HR := hide hr
  have HP := hide hp
  clear hr hp
  go_enter Tryz.func13, Tryz.ntmps13
  go_wp2
  go_loopw [4, 12] (fun o i wr => ∃ k : Nat, k ≤ vs.length ∧ i = .int .i64 k ∧ wr.ownsRow w.heap.size 20 1 o k ((vs.take k).map Val.goV) ∧ Below w.heap.size w wr) (fun _ i _ => vs.length - (intOf i).toNat)
  case atStart => exact ⟨0, Nat.zero_le _, rfl, by simpa using World.ownsRow_made (size := 1) w #[] 0 (Nat.le_refl _) (Nat.zero_le _) rfl, (Below.refl _ _).alloc (Nat.le_refl _) _⟩
  case round =>
    obtain ⟨k, hk, rfl, hown, hb⟩ := hrel
    have HO := hide hown
    have HB := hide hb
    clear hown hb
    by_cases hlt : k < vs.length
    · obtain ⟨ad, v, rfl, hbl, hv, hc0, hc1, hc2, hc3, hc4, hc5⟩ := reads_at6 (unhide HR) rfl hlt ((unhide HB).mono hB)
      have hvp := unhide HP v (List.mem_of_getElem? hv)
      have HT := hide (take_next hv)
      have HC := hide (fun W => goOf_any v W hvp)
      have HX1 := hide (goV_one v)
      have hg := goV_cases v
      generalize hx : v.goV = x at hg HC HX1
      have HX := hide hx
      clear hv hvp hx
      rcases hg with rfl | ⟨t, u, rfl⟩
      · go_wp2_with (first
          | (go_at_call 17; refine (unhide HC _).mono ?_; rintro e w1 ⟨rfl, hb1⟩
             have HB1 := hide hb1
             have HO1 := hide (own_below ((unhide HO).alloc _) hb1)
             have HW1 := hide (((unhide HB).alloc (unhide HB).size _).trans (hb1.mono (by have := (unhide HB).size; simp; omega)))
             clear hb1)
          | (at_builtin; refine wpList_append_own _ rfl _ _ 37 rfl w.heap.size 20 i0 .nilIface 1 16 Tryz.underlying37 hi0 hz0 hz1 hz2 rfl (by decide) _ _ _ rfl ((unhide HO1).alloc _) ⟨w1.heap.size, 0, none⟩ 1 1 [.nilIface] rfl rfl ?c1 ?c2 ?c3 ?c4 ?c5 ?_))
        case c1 => exact cell_one_at w1 _ 20
        case c2 => intro z hz; obtain rfl := List.mem_singleton.1 hz
                   exact unhide HX1
        case c3 => unfold maxLen; omega
        case c4 => omega
        case c5 => exact Nat.le_trans (unhide HW1).size (by simp)
        intro v' w2 hown2 hg2 _
        have HO2 := hide hown2
        have HB2 := hide (((unhide HW1).alloc (unhide HW1).size _).grown hg2 (Nat.le_trans (unhide HW1).size (by simp)) fun g hg => ((unhide HO).lt g hg).1)
        clear hown2 hg2
        go_wp2
        go_roundw
        case rel => exact ⟨k + 1, by omega, by go_num, by rw [unhide HT, List.map_append, List.map_singleton, unhide HX, List.map_take]; exact unhide HO2, unhide HB2⟩
        case measure => simp [intOf]; omega
      · go_wp2_with (first
          | (go_at_call 17; refine (unhide HC _).mono ?_; rintro e w1 ⟨rfl, hb1⟩
             have HB1 := hide hb1
             have HO1 := hide (own_below ((unhide HO).alloc _) hb1)
             have HW1 := hide (((unhide HB).alloc (unhide HB).size _).trans (hb1.mono (by have := (unhide HB).size; simp; omega)))
             clear hb1)
          | (at_builtin; refine wpList_append_own _ rfl _ _ 37 rfl w.heap.size 20 i0 .nilIface 1 16 Tryz.underlying37 hi0 hz0 hz1 hz2 rfl (by decide) _ _ _ rfl ((unhide HO1).alloc _) ⟨w1.heap.size, 0, none⟩ 1 1 [.iface t u] rfl rfl ?c1 ?c2 ?c3 ?c4 ?c5 ?_))
        case c1 => exact cell_one_at w1 _ 20
        case c2 => intro z hz; obtain rfl := List.mem_singleton.1 hz
                   exact unhide HX1
        case c3 => unfold maxLen; omega
        case c4 => omega
        case c5 => exact Nat.le_trans (unhide HW1).size (by simp)
        intro v' w2 hown2 hg2 _
        have HO2 := hide hown2
        have HB2 := hide (((unhide HW1).alloc (unhide HW1).size _).grown hg2 (Nat.le_trans (unhide HW1).size (by simp)) fun g hg => ((unhide HO).lt g hg).1)
        clear hown2 hg2
        go_wp2
        go_roundw
        case rel => exact ⟨k + 1, by omega, by go_num, by rw [unhide HT, List.map_append, List.map_singleton, unhide HX, List.map_take]; exact unhide HO2, unhide HB2⟩
        case measure => simp [intOf]; omega
    · obtain rfl : k = vs.length := by omega
      rw [List.take_of_length_le (Nat.le_refl vs.length)] at HO
      go_wp2
      go_ret2
      exact ⟨_, rfl, unhide HO, unhide HB⟩
end Go.Proofs.YtcogodapgibceaaGreatDoor
