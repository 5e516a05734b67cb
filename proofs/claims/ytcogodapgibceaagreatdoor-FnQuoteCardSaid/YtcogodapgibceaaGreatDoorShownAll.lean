/-
  spec.ShownAll: how at most 20 values are written, without those that are nil.
-/
import Derived.Test.YtcogodapgibceaaGreatDoorShown
namespace Go.Proofs.YtcogodapgibceaaGreatDoor
open Go.RowKit

theorem info9 : (Tryz.prog.info? 9).map (fun i => (i.zero, i.size, i.bytes)) = some (some (.string ⟨#[]⟩), 1, 16) := by kernel_rfl

def shownL (vs : List Val) : List ByteArray := vs.filterMap Val.shown
def Val.okInt (v : Val) : Prop := -9223372036854775808 ≤ v.n ∧ v.n ≤ 9223372036854775807

theorem flat_at (vs : List Val) (k j : Nat) (v : Val) (hv : vs[k]? = some v) (hj : j < 6) : (vs.flatMap Val.cells)[k * 6 + j]? = v.cells[j]? := by
  induction vs generalizing k with
  | nil => simp at hv
  | cons a vs ih =>
    rw [List.flatMap_cons]
    have hl : a.cells.length = 6 := rfl
    cases k with
    | zero =>
      simp at hv
      subst hv
      rw [List.getElem?_append_left (by omega)]
      simp
    | succ k =>
      simp at hv
      rw [List.getElem?_append_right (by omega), hl, show (k + 1) * 6 + j - 6 = k * 6 + j by omega]
      exact ih k hv
theorem reads_val {w : World} {B n k : Nat} {A : Option Addr} {vs : List Val} (h : Reads w B 6 A n (vs.flatMap Val.cells)) (hn : vs.length = n) (hk : k < n) :
    ∃ ad v, A = some ad ∧ ad.block < B ∧ vs[k]? = some v ∧ ∀ j u, v.cells[j]? = some u → w.cell? (ad.add (k * 6 + j)) = some u := by
  obtain ⟨ad, e, hb, hc⟩ := h.2 (by omega)
  have hl : k < vs.length := by omega
  refine ⟨ad, vs[k], e, hb, List.getElem?_eq_getElem hl, fun j u hu => hc _ u ?_⟩
  have hj : j < 6 := (List.getElem?_eq_some_iff.1 hu).1
  rw [flat_at vs k j _ (List.getElem?_eq_getElem hl) hj]
  exact hu

/-- A value's six cells at an address, as the walk spells them. -/
def At6 (w : World) (pa : Addr) (v : Val) : Prop :=
  w.cell? pa = some (.int .i64 v.kd) ∧ w.cell? ⟨pa.block, pa.off + 1, none⟩ = some (.int .i64 v.n) ∧ w.cell? ⟨pa.block, pa.off + 2, none⟩ = some (.float .f64 v.re) ∧
  w.cell? ⟨pa.block, pa.off + 3, none⟩ = some (.string v.tx) ∧ w.cell? ⟨pa.block, pa.off + 4, none⟩ = some (.slice v.ka v.kn v.kc) ∧ w.cell? ⟨pa.block, pa.off + 5, none⟩ = some (.slice v.la v.ln v.lc)
theorem at6_of {w : World} {pa : Addr} {v : Val} (h : ∀ j u, v.cells[j]? = some u → w.cell? (pa.add j) = some u) : At6 w pa v :=
  ⟨h 0 _ rfl, h 1 _ rfl, h 2 _ rfl, h 3 _ rfl, h 4 _ rfl, h 5 _ rfl⟩
theorem reads_at6 {w w' : World} {B n k : Nat} {A : Option Addr} {vs : List Val} (h : Reads w B 6 A n (vs.flatMap Val.cells)) (hn : vs.length = n) (hk : k < n) (hb : Below B w w') :
    ∃ ad v, A = some ad ∧ (ad.add (k * 6)).block < B ∧ vs[k]? = some v ∧ At6 w' (ad.add (k * 6)) v := by
  obtain ⟨ad, v, e, hbl, hv, hc⟩ := reads_val h hn hk
  refine ⟨ad, v, e, by rw [block_of_add]; exact hbl, hv, at6_of fun j u hu => ?_⟩
  rw [hb.cell (by rw [block_of_add, block_of_add]; exact hbl), add_of_add]
  exact hc j u hu

theorem take_next {vs : List Val} {k : Nat} {v : Val} (h : vs[k]? = some v) : vs.take (k + 1) = vs.take k ++ [v] := by
  rw [List.take_add_one, h]; rfl
theorem shownL_next (l : List Val) (v : Val) : shownL (l ++ [v]) = shownL l ++ v.shown.toList := by
  unfold shownL
  rw [List.filterMap_append]
  cases h : v.shown <;> simp [List.filterMap, h]
theorem shownL_some {l : List Val} {v : Val} {s : ByteArray} (h : v.shown = some s) : shownL (l ++ [v]) = shownL l ++ [s] := by rw [shownL_next, h]; rfl
theorem shownL_none {l : List Val} {v : Val} (h : v.shown = none) : shownL (l ++ [v]) = shownL l := by rw [shownL_next, h]; exact List.append_nil _
theorem only_of_below {a w : World} (h : Below a.heap.size a w) (row : Option Nat) : a.grownBy w row := ⟨h.os, h.tape, h.output, h.size, fun i hi _ => h.block i hi⟩
theorem own_below {w w' : World} {base : Nat} {e : TypeId} {size n : Nat} {v : Value} {xs : List Value} (h : w.ownsRow base e size v n xs) (hb : Below w.heap.size w w') : w'.ownsRow base e size v n xs :=
  h.kept (only_of_below hb none) (by cases hv : v.ownBlock <;> simp)
theorem cell_one_at (w : World) (v : Value) (t : TypeId) : ∀ (j : Nat) (u : Value), [v][j]? = some u → (w.alloc (.cells #[v] t)).cell? ((⟨w.heap.size, 0, none⟩ : Addr).add j) = some u := by
  intro j u hu
  cases j with
  | zero =>
    simp at hu
    subst hu
    exact World.cell?_alloc_mark w #[v] t (0, 0) 0
  | succ j => simp at hu
theorem shownL_len (l : List Val) : (shownL l).length ≤ l.length := List.length_filterMap_le _ _

set_option maxRecDepth 100000 in
set_option maxHeartbeats 1000000 in
theorem shownAll_any (vs : List Val) (B : Nat) (A : Option Addr) (c : Nat) (w : World) (hr : Reads w B 6 A vs.length (vs.flatMap Val.cells)) (hB : B ≤ w.heap.size) (hn : vs.length ≤ 20) (hi : ∀ v ∈ vs, v.okInt) :
    Calls Tryz.prog 5 #[.slice A vs.length c] w fun e w' => ∃ v, e = .returned v ∧ w'.ownsRow w.heap.size 9 1 v (shownL vs).length ((shownL vs).map Value.string) ∧ Below w.heap.size w w' := by
  obtain ⟨i0, hi0, hz0, hz1, hz2⟩ := info_parts info9
  have HR := hide hr
  have HI := hide hi
  clear hr hi
  go_enter Tryz.func5, Tryz.ntmps5
  go_wp2
  go_loopw [3, 10] (fun o i wr => ∃ k : Nat, k ≤ vs.length ∧ i = .int .i64 k ∧ wr.ownsRow w.heap.size 9 1 o (shownL (vs.take k)).length ((shownL (vs.take k)).map Value.string) ∧ Below w.heap.size w wr) (fun _ i _ => vs.length - (intOf i).toNat)
  case atStart => exact ⟨0, Nat.zero_le _, rfl, by simpa [shownL] using World.ownsRow_made (size := 1) w #[] 0 (Nat.le_refl _) (Nat.zero_le _) rfl, (Below.refl _ _).alloc (Nat.le_refl _) _⟩
  case round =>
    obtain ⟨k, hk, rfl, hown, hb⟩ := hrel
    have HO := hide hown
    have HB := hide hb
    clear hown hb
    by_cases hlt : k < vs.length
    · obtain ⟨ad, v, rfl, hbl, hv, hc0, hc1, hc2, hc3, hc4, hc5⟩ := reads_at6 (unhide HR) rfl hlt ((unhide HB).mono hB)
      have hvi := unhide HI v (List.mem_of_getElem? hv)
      have ht := take_next hv
      have hlen := Nat.le_trans (shownL_len (vs.take k)) (List.length_take_le k vs)
      have HT := hide ht
      have HV := hide hv
      have HVI := hide hvi
      clear hv ht hvi
      rcases hsh : v.shown with _ | s
      · have HS := hide (shownL_none (l := vs.take k) hsh)
        rw [← unhide HT] at HS
        have hsv := shown_any v wr (unhide HVI).1 (unhide HVI).2
        rw [hsh] at hsv
        have HSV := hide hsv
        clear hsh hsv
        go_wp2_with (go_at_call 12; refine (unhide HSV).mono ?_; rintro e w1 ⟨rfl, hb1⟩)
        have HB1 := hide hb1
        clear hb1
        go_roundw
        case rel => exact ⟨k + 1, by omega, by go_num, by rw [unhide HS]; exact own_below (unhide HO) (unhide HB1), (unhide HB).trans ((unhide HB1).mono (unhide HB).size)⟩
        case measure => simp [intOf]; omega
      · have HS := hide (shownL_some (l := vs.take k) hsh)
        rw [← unhide HT] at HS
        have hsv := shown_any v wr (unhide HVI).1 (unhide HVI).2
        rw [hsh] at hsv
        have HSV := hide hsv
        clear hsh hsv
        go_wp2_with (first
          | (go_at_call 12; refine (unhide HSV).mono ?_; rintro e w1 ⟨rfl, hb1⟩; have HB1 := hide hb1; clear hb1)
          | (at_builtin; refine wpList_append_own _ rfl _ _ 24 rfl w.heap.size 9 i0 (.string ⟨#[]⟩) 1 16 Tryz.underlying24 hi0 hz0 hz1 hz2 rfl (by decide) _ _ _ rfl ((own_below (unhide HO) (unhide HB1)).alloc _) ⟨w1.heap.size, 0, none⟩ 1 1 [.string s] rfl rfl ?c1 ?c2 ?c3 ?c4 ?c5 ?_))
        case c1 => exact cell_one_at w1 _ 9
        case c2 => intro u hu; obtain rfl : u = .string s := by simpa using hu
                   rfl
        case c3 => unfold maxLen; omega
        case c4 => omega
        case c5 => exact Nat.le_trans (unhide HB).size (Nat.le_trans (unhide HB1).size (by simp))
        intro v' w2 hown2 hg2 _
        have HO2 := hide hown2
        have HB2 := hide ((((unhide HB).trans ((unhide HB1).mono (unhide HB).size)).alloc (Nat.le_trans (unhide HB).size (unhide HB1).size) _).grown hg2 (Nat.le_trans (unhide HB).size (Nat.le_trans (unhide HB1).size (by simp))) fun g hg => ((unhide HO).lt g hg).1)
        clear hown2 hg2
        go_wp2
        go_roundw
        case rel => exact ⟨k + 1, by omega, by go_num, by rw [unhide HS, List.length_append, List.map_append]; exact unhide HO2, unhide HB2⟩
        case measure => simp [intOf]; omega
    · obtain rfl : k = vs.length := by omega
      rw [List.take_of_length_le (Nat.le_refl vs.length)] at HO
      go_wp2
      go_ret
      exact ⟨_, rfl, unhide HO, unhide HB⟩
end Go.Proofs.YtcogodapgibceaaGreatDoor
