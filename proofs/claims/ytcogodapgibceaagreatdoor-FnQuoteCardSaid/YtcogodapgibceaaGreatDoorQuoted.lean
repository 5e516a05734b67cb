/-
  spec.Quoted puts a text of at most 500 bytes in quotes, with escapes: byte by byte.
-/
import Derived.Test.YtcogodapgibceaaGreatDoorWords
import Derived.Deep.QuietTactic
import Derived.BigQuiet
namespace Go.Proofs.YtcogodapgibceaaGreatDoor
open Go.RowKit

def fromB : ByteArray := ⟨#[7, 8, 12, 10, 13, 9, 11, 34, 92]⟩
theorem next_yes (w : World) (j : Nat) (hj : j < 9) : ∃ x : Int, ∀ ty, (Instr.next (.pointer (some ⟨w.heap.size, 0, none⟩)) true ty).run Tryz.prog (w.iter fromB j) = .ok (.tuple #[.bool true, .int .i64 j, .int .i32 x]) (w.iter fromB (j + 1)) := by
  have h : j < fromB.size := hj
  have ha : (fromB[j]'h).toNat < 128 := (show ∀ j, (h : j < 9) → (fromB[j]'h).toNat < 128 by decide) j hj
  exact ⟨_, fun ty => run_next_ascii w fromB j ty h ha⟩
theorem from_byte (j : Nat) (hj : j < 9) : (fromB[j]'hj) = fromL.getD j 0 := by
  have h : ∀ i : Fin 9, (fromB[i.1]'i.2) = fromL.getD i.1 0 := by decide
  exact h ⟨j, hj⟩
theorem from_at (j : Nat) (hj : j < 9) : ∃ f : UInt8, fromL.getD j 0 = f ∧ ∀ w : World, (Instr.index 9 (.string ⟨#[7, 8, 12, 10, 13, 9, 11, 34, 92]⟩) (.int .i64 j)).run Tryz.prog w = .ok (.int .u8 f.toNat) w :=
  ⟨_, rfl, fun w => by
    rw [← from_byte j hj]
    have h := run_index_string (P := Tryz.prog) w 9 fromB .i64 j Tryz.underlying9
    rw [dif_pos ⟨by omega, by exact Int.ofNat_lt.2 hj⟩] at h
    exact h⟩
theorem iter_drewN (w : World) (n m j : Nat) : ((w.drewN n).iter fromB j).drewN m = (w.drewN (n + m)).iter fromB j := by
  rw [← World.drewN_drewN]
  rfl
theorem meas (w : World) (s : ByteArray) {m n : Nat} {j : Nat} (hj : j < 9) : 9 - ((w.drewN m).iter s (j + 1)).iterPos w.heap.size < 9 - ((w.drewN n).iter s j).iterPos w.heap.size := by
  have h1 : ((w.drewN m).iter s (j + 1)).iterPos w.heap.size = j + 1 := World.iterPos_iter (w.drewN m) s (j + 1)
  have h2 : ((w.drewN n).iter s j).iterPos w.heap.size = j := World.iterPos_iter (w.drewN n) s j
  omega
theorem next_no (w : World) (ty : TypeId) : (Instr.next (.pointer (some ⟨w.heap.size, 0, none⟩)) true ty).run Tryz.prog (w.iter fromB 9) = .ok (.tuple #[.bool false]) (w.iter fromB 9) :=
  run_next_end w fromB 9 ty (by decide)

set_option maxRecDepth 100000 in
set_option maxHeartbeats 1000000 in
theorem quoted_any (s : ByteArray) (w : World) (hs : s.size ≤ 500) :
    Calls Tryz.prog 7 #[.string s] w fun e w' => e = .returned (.string ⟨(quotedL s.data.toList).toArray⟩) ∧ Below w.heap.size w w' := by
  go_enter Tryz.func7, Tryz.ntmps7
  go_wp2
  go_loopw [5, 6] (fun o i wr => ∃ (k : Nat), k ≤ s.size ∧ i = .int .i64 k ∧ o = .string (qo (s.data.toList.take k)) ∧ Below w.heap.size w wr) (fun _ i _ => s.size - (intOf i).toNat)
  case atStart => exact ⟨0, Nat.zero_le _, rfl, rfl, Below.refl _ _⟩
  case round =>
    obtain ⟨k, hk, rfl, rfl, hb⟩ := hrel
    have HB := hide hb
    clear hb
    have hz := qo_size (s.data.toList.take k)
    have hl : (s.data.toList.take k).length ≤ k := List.length_take_le _ _
    by_cases hlt : k < s.size
    · have HQ := hide (qo_snoc (s.data.toList.take k) s[k])
      rw [← take_snoc s k hlt] at HQ
      generalize hq : qo (s.data.toList.take k) = q at hz HQ ⊢
      clear hq
      have hp9 := pk_size s[k] 9
      by_cases h1 : (s[k].toNat : Int) < 32
      · have HP := hide (part_hex s[k] (Or.inl (by omega)))
        go_wp2
        go_quiet (fail)
        go_wp2
        go_loopw [7] (fun p wi => ∃ j n : Nat, j ≤ 9 ∧ p = .string (pk s[k] j) ∧ wi = (wr.drewN n).iter fromB j) (fun _ wi => 9 - wi.iterPos wr.heap.size)
        case atStart => exact ⟨0, nq, by omega, congrArg Value.string (unhide HP), rfl⟩
        case round =>
          obtain ⟨j, n, hj, rfl, rfl⟩ := hrel
          by_cases hjl : j < 9
          · obtain ⟨x, hnx⟩ := next_yes (wr.drewN n) j hjl
            simp only [show (wr.drewN n).heap.size = wr.heap.size from rfl] at hnx
            obtain ⟨f, hf, hidx⟩ := from_at j hjl
            have HF := hide hf
            clear hf
            by_cases hc : f = s[k]
            · have hcb : ((f.toNat : Int) == (s[k].toNat : Int)) = true := by rw [hc]; simp
              have HC := hide hc
              clear hc
              go_wp2
              go_quiet (fail)
              go_wp2
              go_roundw
              case rel => exact ⟨j + 1, n + nq, by omega, congrArg Value.string (pick_yes s[k] j hjl ((unhide HF).trans (unhide HC))), iter_drewN _ _ _ _⟩
              case measure => rw [iter_drewN]; exact meas wr fromB hjl
            · have hcb : ((f.toNat : Int) == (s[k].toNat : Int)) = false := by
                rw [beq_eq_false_iff_ne]
                intro h
                exact hc (UInt8.toNat_inj.1 (by omega))
              have HC := hide hc
              clear hc
              go_wp2
              go_quiet (fail)
              go_wp2
              go_roundw
              case rel => exact ⟨j + 1, n + nq, by omega, congrArg Value.string (pick_no s[k] j (fun h => unhide HC ((unhide HF).symm.trans h))), iter_drewN _ _ _ _⟩
              case measure => rw [iter_drewN]; exact meas wr fromB hjl
          · obtain rfl : j = 9 := by omega
            have hnx : ∀ ty, (Instr.next (.pointer (some ⟨wr.heap.size, 0, none⟩)) true ty).run Tryz.prog ((wr.drewN n).iter fromB 9) = _ := fun ty => next_no (wr.drewN n) ty
            have hone : Below w.heap.size w ((wr.drewN n).iter fromB 9) := (below_drewN (unhide HB) n).alloc (unhide HB).size _
            have HO := hide hone
            clear hone
            go_wp2
            go_roundw
            case rel => exact ⟨k + 1, by omega, by go_num, by rw [unhide HQ], unhide HO⟩
            case measure => simp [intOf]; omega
      · by_cases h2 : s[k].toNat = 127
        · have HP := hide (part_hex s[k] (Or.inr h2))
          have h3 : ((s[k].toNat : Int) == 127) = true := by rw [h2]; rfl
          have hlo : (s[k].toNat : Int) < 256 := by have := s[k].toNat_lt; omega
          have H2 := hide h2
          clear h2
          go_wp2
          go_quiet (fail)
          go_wp2
          go_loopw [7] (fun p wi => ∃ j n : Nat, j ≤ 9 ∧ p = .string (pk s[k] j) ∧ wi = (wr.drewN n).iter fromB j) (fun _ wi => 9 - wi.iterPos wr.heap.size)
          case atStart => exact ⟨0, nq, by omega, congrArg Value.string (unhide HP), rfl⟩
          case round =>
            obtain ⟨j, n, hj, rfl, rfl⟩ := hrel
            by_cases hjl : j < 9
            · obtain ⟨x, hnx⟩ := next_yes (wr.drewN n) j hjl
              simp only [show (wr.drewN n).heap.size = wr.heap.size from rfl] at hnx
              obtain ⟨f, hf, hidx⟩ := from_at j hjl
              have HF := hide hf
              clear hf
              by_cases hc : f = s[k]
              · have hcb : ((f.toNat : Int) == (s[k].toNat : Int)) = true := by rw [hc]; simp
                have HC := hide hc
                clear hc
                go_wp2
                go_quiet (fail)
                go_wp2
                go_roundw
                case rel => exact ⟨j + 1, n + nq, by omega, congrArg Value.string (pick_yes s[k] j hjl ((unhide HF).trans (unhide HC))), iter_drewN _ _ _ _⟩
                case measure => rw [iter_drewN]; exact meas wr fromB hjl
              · have hcb : ((f.toNat : Int) == (s[k].toNat : Int)) = false := by
                  rw [beq_eq_false_iff_ne]
                  intro h
                  exact hc (UInt8.toNat_inj.1 (by omega))
                have HC := hide hc
                clear hc
                go_wp2
                go_quiet (fail)
                go_wp2
                go_roundw
                case rel => exact ⟨j + 1, n + nq, by omega, congrArg Value.string (pick_no s[k] j (fun h => unhide HC ((unhide HF).symm.trans h))), iter_drewN _ _ _ _⟩
                case measure => rw [iter_drewN]; exact meas wr fromB hjl
            · obtain rfl : j = 9 := by omega
              have hnx : ∀ ty, (Instr.next (.pointer (some ⟨wr.heap.size, 0, none⟩)) true ty).run Tryz.prog ((wr.drewN n).iter fromB 9) = _ := fun ty => next_no (wr.drewN n) ty
              have hone : Below w.heap.size w ((wr.drewN n).iter fromB 9) := (below_drewN (unhide HB) n).alloc (unhide HB).size _
              have HO := hide hone
              clear hone
              go_wp2
              go_roundw
              case rel => exact ⟨k + 1, by omega, by go_num, by rw [unhide HQ], unhide HO⟩
              case measure => simp [intOf]; omega
        · have HP := hide (part_one s k hlt (by omega))
          have h3 : ((s[k].toNat : Int) == 127) = false := by rw [beq_eq_false_iff_ne]; omega
          clear h2
          go_wp2
          go_loopw [7] (fun p wi => ∃ j n : Nat, j ≤ 9 ∧ p = .string (pk s[k] j) ∧ wi = (wr.drewN n).iter fromB j) (fun _ wi => 9 - wi.iterPos wr.heap.size)
          case atStart => exact ⟨0, 0, by omega, congrArg Value.string (unhide HP), rfl⟩
          case round =>
            obtain ⟨j, n, hj, rfl, rfl⟩ := hrel
            by_cases hjl : j < 9
            · obtain ⟨x, hnx⟩ := next_yes (wr.drewN n) j hjl
              simp only [show (wr.drewN n).heap.size = wr.heap.size from rfl] at hnx
              obtain ⟨f, hf, hidx⟩ := from_at j hjl
              have HF := hide hf
              clear hf
              by_cases hc : f = s[k]
              · have hcb : ((f.toNat : Int) == (s[k].toNat : Int)) = true := by rw [hc]; simp
                have HC := hide hc
                clear hc
                go_wp2
                go_quiet (fail)
                go_wp2
                go_roundw
                case rel => exact ⟨j + 1, n + nq, by omega, congrArg Value.string (pick_yes s[k] j hjl ((unhide HF).trans (unhide HC))), iter_drewN _ _ _ _⟩
                case measure => rw [iter_drewN]; exact meas wr fromB hjl
              · have hcb : ((f.toNat : Int) == (s[k].toNat : Int)) = false := by
                  rw [beq_eq_false_iff_ne]
                  intro h
                  exact hc (UInt8.toNat_inj.1 (by omega))
                have HC := hide hc
                clear hc
                go_wp2
                go_quiet (fail)
                go_wp2
                go_roundw
                case rel => exact ⟨j + 1, n + nq, by omega, congrArg Value.string (pick_no s[k] j (fun h => unhide HC ((unhide HF).symm.trans h))), iter_drewN _ _ _ _⟩
                case measure => rw [iter_drewN]; exact meas wr fromB hjl
            · obtain rfl : j = 9 := by omega
              have hnx : ∀ ty, (Instr.next (.pointer (some ⟨wr.heap.size, 0, none⟩)) true ty).run Tryz.prog ((wr.drewN n).iter fromB 9) = _ := fun ty => next_no (wr.drewN n) ty
              have hone : Below w.heap.size w ((wr.drewN n).iter fromB 9) := (below_drewN (unhide HB) n).alloc (unhide HB).size _
              have HO := hide hone
              clear hone
              go_wp2
              go_roundw
              case rel => exact ⟨k + 1, by omega, by go_num, by rw [unhide HQ], unhide HO⟩
              case measure => simp [intOf]; omega
    · obtain rfl : k = s.size := by omega
      have HE := hide (qo_end s.data.toList)
      rw [show s.data.toList.take s.size = s.data.toList from List.take_of_length_le (by simp)] at hz ⊢
      have hsz : s.data.toList.length = s.size := by simp
      rw [hsz] at hz
      clear hsz
      generalize qo s.data.toList = q at hz HE ⊢
      go_wp2
      go_ret
      exact ⟨congrArg (fun x => Ending.returned (Value.string x)) (unhide HE), unhide HB⟩
end Go.Proofs.YtcogodapgibceaaGreatDoor
