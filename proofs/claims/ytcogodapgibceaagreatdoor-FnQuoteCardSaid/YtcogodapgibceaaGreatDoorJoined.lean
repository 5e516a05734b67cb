/-
  spec.Joined puts texts together with one between each two: at most 20 texts of at most 6000 bytes, the one between of at most 10.
-/
import Derived.Test.YtcogodapgibceaaGreatDoorBase
namespace Go.Proofs.YtcogodapgibceaaGreatDoor
open Go.RowKit

/-- The first k texts with b between each two. -/
def jn (b : ByteArray) (S : List ByteArray) : Nat → ByteArray
  | 0 => ⟨#[]⟩
  | k + 1 => (if 0 < k then jn b S k ++ b else jn b S k) ++ S.getD k ⟨#[]⟩

theorem jn_size (b : ByteArray) (S : List ByteArray) (hb : b.size ≤ 10) (hS : ∀ s ∈ S, s.size ≤ 6000) (k : Nat) (hk : k ≤ S.length) : (jn b S k).size ≤ k * 6010 := by
  induction k with
  | zero => simp [jn, ByteArray.size]
  | succ k ih =>
    have h := ih (by omega)
    have h1 : (S.getD k ⟨#[]⟩).size ≤ 6000 := by
      have hx : k < S.length := by omega
      have hg : S.getD k ⟨#[]⟩ = S[k] := by simp [List.getD, List.getElem?_eq_getElem hx]
      rw [hg]
      exact hS _ (List.getElem_mem hx)
    unfold jn
    split <;> simp only [ByteArray.size_append] <;> omega

set_option maxRecDepth 100000 in
set_option maxHeartbeats 400000 in
theorem joined_any (b : ByteArray) (S : List ByteArray) (B : Nat) (A : Option Addr) (c : Nat) (w : World) (hr : Reads w B 1 A S.length (S.map Value.string)) (hb : b.size ≤ 10) (hn : S.length ≤ 20) (hS : ∀ s ∈ S, s.size ≤ 6000) :
    Calls Tryz.prog 9 #[.string b, .slice A S.length c] w fun e w' => e = .returned (.string (jn b S S.length)) ∧ w = w' := by
  have HS := hide hS
  clear hS
  have HR := hide hr
  clear hr
  go_enter Tryz.func9, Tryz.ntmps9
  go_wp2
  go_loop [5, 9] (fun o i => ∃ k : Nat, k ≤ S.length ∧ i = .int .i64 k ∧ o = .string (jn b S k)) (fun _ i => S.length - (intOf i).toNat)
  case atStart => exact ⟨0, Nat.zero_le _, rfl, rfl⟩
  case round =>
    obtain ⟨k, hk, rfl, rfl⟩ := hrel
    have hz := jn_size b S hb (unhide HS) k hk
    by_cases hlt : k < S.length
    · obtain ⟨ad, u, rfl, _, hu, hcell⟩ := (unhide HR).at_ hlt
      have hu' : u = .string (S.getD k ⟨#[]⟩) := by
        simp [List.getElem?_eq_getElem hlt] at hu
        simp [List.getD, List.getElem?_eq_getElem hlt, hu]
      rw [hu'] at hcell
      clear hu hu'
      have h1 : (S.getD k ⟨#[]⟩).size ≤ 6000 := by
        have hg : S.getD k ⟨#[]⟩ = S[k] := by simp [List.getD, List.getElem?_eq_getElem hlt]
        rw [hg]
        exact unhide HS _ (List.getElem_mem hlt)
      have e1 : ∀ t, t = S.getD k ⟨#[]⟩ → 0 < k → jn b S k ++ b ++ t = jn b S (k + 1) := fun t ht h => by rw [jn, if_pos h, ht]
      have e2 : ∀ t, t = S.getD k ⟨#[]⟩ → ¬ 0 < k → jn b S k ++ t = jn b S (k + 1) := fun t ht h => by rw [jn, if_neg h, ht]
      have E1 := hide e1
      have E2 := hide e2
      clear e1 e2
      generalize ht : S.getD k ⟨#[]⟩ = t at hcell h1
      have HT := hide ht.symm
      clear ht
      generalize hj : jn b S k = o at hz ⊢
      have HJ := hide hj.symm
      clear hj
      by_cases h0 : 0 < k
      · go_wp2
        go_round
        case rel => exact ⟨k + 1, by omega, by go_num, by rw [← unhide E1 t (unhide HT) h0, unhide HJ]⟩
        case measure => simp [intOf]; omega
      · go_wp2
        go_round
        case rel => exact ⟨k + 1, by omega, by go_num, by rw [← unhide E2 t (unhide HT) h0, unhide HJ]⟩
        case measure => simp [intOf]; omega
    · obtain rfl : k = S.length := by omega
      go_wp2
      go_ret
      exact ⟨rfl, rfl⟩
end Go.Proofs.YtcogodapgibceaaGreatDoor
