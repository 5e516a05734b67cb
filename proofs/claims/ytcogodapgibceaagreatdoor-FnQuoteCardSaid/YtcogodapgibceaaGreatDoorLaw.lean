/-
  The statement's function: it returns true at every list of values, and memory that was there stays as it was.
-/
import Derived.Test.YtcogodapgibceaaGreatDoorPlain
import Derived.Test.YtcogodapgibceaaGreatDoorAscii
import Derived.Test.YtcogodapgibceaaGreatDoorSimple
import Derived.Test.YtcogodapgibceaaGreatDoorValues
namespace Go.Proofs.YtcogodapgibceaaGreatDoor
open Go.RowKit

/-- A slice over a row of texts that the call made itself, from block 'base' on: its first cells are xs. -/
def InRow (w : World) (base : Nat) (A : Option Addr) (xs : List Value) : Prop :=
  xs = [] ∨ ∃ g cur, A = some ⟨g, 0, none⟩ ∧ base ≤ g ∧ w.heap[g]? = some (.cells cur 9 (0, 0)) ∧ cur.toList.take xs.length = xs

section
variable {w w' : World} {base : Nat} {A : Option Addr} {xs : List Value}
theorem lt_of_heap {w : World} {g : Nat} {o : Obj} (h : w.heap[g]? = some o) : g < w.heap.size := (Array.getElem?_eq_some_iff.1 h).1
theorem InRow.of_own {n c : Nat} (h : w.ownsRow base 9 1 (.slice A n c) n xs) : InRow w base A xs := by
  have hl : xs.length = n := by have := h.1; omega
  rcases h.2 with ⟨_, h0⟩ | ⟨g, cap, cur, hv, hb, hg, _, _, _, ht⟩
  · exact Or.inl (List.eq_nil_of_length_eq_zero (by omega))
  · refine Or.inr ⟨g, cur, by injection hv, hb, hg, ?_⟩
    rw [Nat.mul_one] at ht
    rw [hl, ht]
theorem InRow.at_ {k : Nat} (h : InRow w base A xs) (hk : k < xs.length) : ∃ g u, A = some ⟨g, 0, none⟩ ∧ base ≤ g ∧ g < w.heap.size ∧ xs[k]? = some u ∧ w.cell? ⟨g, k, none⟩ = some u ∧ w.frozen? ⟨g, k, none⟩ = false := by
  rcases h with rfl | ⟨g, cur, hA, hb, hg, ht⟩
  · simp at hk
  · refine ⟨g, xs[k], hA, hb, lt_of_heap hg, List.getElem?_eq_getElem hk, ?_, ?_⟩
    · rw [cell_of_row w g k cur 9 (0, 0) hg]
      have h1 : xs[k]? = cur.toList[k]? := by
        conv => lhs; rw [← ht]
        rw [List.getElem?_take, if_pos hk]
      rw [List.getElem?_eq_getElem hk] at h1
      simpa using h1.symm
    · simp [World.frozen?, hg]
theorem InRow.below {B : Nat} (h : InRow w base A xs) (hb : Below B w w') (hB : w.heap.size ≤ B) : InRow w' base A xs := by
  rcases h with h | ⟨g, cur, hA, hbs, hg, ht⟩
  · exact Or.inl h
  · exact Or.inr ⟨g, cur, hA, hbs, (hb.block g (Nat.lt_of_lt_of_le (lt_of_heap hg) hB)).trans hg, ht⟩
theorem InRow.set_ {g k : Nat} (h : InRow w base (some ⟨g, 0, none⟩) xs) (hk : k < xs.length) (u : Value) : InRow (w.setCell ⟨g, k, none⟩ u) base (some ⟨g, 0, none⟩) (xs.set k u) := by
  rcases h with rfl | ⟨g', cur, hA, hbs, hg, ht⟩
  · simp at hk
  · injection hA with hA
    injection hA with hA
    subst hA
    refine Or.inr ⟨g, cur.setIfInBounds k u, rfl, hbs, ?_, ?_⟩
    · simp [World.setCell, Array.getElem?_modify, hg]
    · rw [Array.toList_setIfInBounds, List.length_set, List.take_set, ht]
theorem InRow.reads (h : InRow w base A xs) : Reads w w.heap.size 1 A xs.length xs := by
  refine ⟨by omega, fun hn => ?_⟩
  rcases h with rfl | ⟨g, cur, hA, hbs, hg, ht⟩
  · simp at hn
  · refine ⟨⟨g, 0, none⟩, hA, lt_of_heap hg, fun j u hu => ?_⟩
    have hj : j < xs.length := (List.getElem?_eq_some_iff.1 hu).1
    obtain ⟨g', u', hA', _, _, hu', hc, _⟩ := InRow.at_ (w := w) (base := base) (A := A) (Or.inr ⟨g, cur, hA, hbs, hg, ht⟩) hj
    rw [hA] at hA'
    injection hA' with hA'
    injection hA' with hA'
    subst hA'
    rw [show (⟨g, 0, none⟩ : Addr).add j = ⟨g, j, none⟩ by unfold Addr.add; split <;> simp_all, hc, ← hu', hu]
end

/-- The first k texts in quotes, the others as they were. -/
def mix (S : List ByteArray) (k : Nat) : List ByteArray := (S.take k).map qt ++ S.drop k
theorem mix_len (S : List ByteArray) (k : Nat) : (mix S k).length = S.length := by simp [mix]; omega
theorem mix_at (S : List ByteArray) (k : Nat) (hk : k < S.length) : (mix S k)[k]? = some S[k] := by
  unfold mix
  rw [List.getElem?_append_right (by simp; omega)]
  simp [List.getElem?_drop, Nat.min_eq_left (Nat.le_of_lt hk)]
theorem mix_set (S : List ByteArray) (k : Nat) (hk : k < S.length) : (mix S k).set k (qt S[k]) = mix S (k + 1) := by
  have e : k - ((S.take k).map qt).length = 0 := by simp; omega
  have hd : S.drop k = S[k] :: S.drop (k + 1) := List.drop_eq_getElem_cons hk
  unfold mix
  rw [List.set_append_right _ _ (by simp; omega), e, hd, List.set_cons_zero, List.take_succ_eq_append_getElem hk, List.map_append, List.append_assoc]
  rfl
theorem mix_end (S : List ByteArray) : mix S S.length = S.map qt := by simp [mix]

theorem asc_next {S : List ByteArray} {k : Nat} (hk : k < S.length) (h : ∀ s ∈ S.take k, asc s.data.toList) (ha : asc S[k].data.toList) : ∀ s ∈ S.take (k + 1), asc s.data.toList := by
  rw [List.take_succ_eq_append_getElem hk]
  intro s hs
  rcases List.mem_append.1 hs with h1 | h1
  · exact h s h1
  · obtain rfl := List.mem_singleton.1 h1
    exact ha

/-- WHERE ALL TEXTS ARE ASCII the two sides write the same. -/
theorem same_text (S : List ByteArray) (h : ∀ s ∈ S, asc s.data.toList) : jn ⟨#[32]⟩ (S.map qt) (S.map qt).length = joinB (S.map qz) := by
  rw [joinB_jn]
  congr 1
  exact List.map_congr_left fun s hs => (qz_qt s (h s hs)).symm

/-- impl.Quote at the one text "a". -/
theorem quote_one (A : Option Addr) (c : Nat) (w : World) (hr : Reads w w.heap.size 6 A 1 (textVal ⟨#[97]⟩).cells) (hT : Tabs w) : Calls Tryz.prog 8 #[.slice A 1 c] w (TextPost ⟨#[34, 97, 34]⟩ w) := by
  have hs : shownL [textVal ⟨#[97]⟩] = [⟨#[97]⟩] := by rfl
  have h := implQuote_any [textVal ⟨#[97]⟩] w.heap.size A c w hr (Nat.le_refl _) (by decide) (by intro v hv; obtain rfl := List.mem_singleton.1 hv; unfold Val.plainKind; exact Or.inr (Or.inr (Or.inr (Or.inr rfl))))
    (by intro v hv; obtain rfl := List.mem_singleton.1 hv; unfold Val.okInt; exact ⟨by decide, by decide⟩) (by rw [hs]; intro s hs; obtain rfl := List.mem_singleton.1 hs; decide) hT
  rw [hs, List.map_singleton, joinB_one, qz_a] at h
  exact h

def LawPost (w : World) (e : Ending) (w' : World) : Prop := e = .returned (.bool true) ∧ Below w.heap.size w w'

set_option maxRecDepth 100000 in
set_option maxHeartbeats 400000 in
theorem law_great (n : Nat) (A : Option Addr) (c : Nat) (w : World) (hm : n ≤ maxLen) (hn : 2147483647 < n) : Calls Tryz.prog 3 #[.slice A n c] w (LawPost w) := by
  unfold maxLen at hm
  go_enter Tryz.func3, Tryz.ntmps3
  go_wp2
  go_ret
  exact ⟨rfl, Below.refl _ _⟩

set_option maxRecDepth 100000 in
set_option maxHeartbeats 1000000 in
theorem law_small (vs : List Val) (B : Nat) (A : Option Addr) (c : Nat) (w : World) (hr : Reads w B 6 A vs.length (vs.flatMap Val.cells)) (hB : B ≤ w.heap.size) (hn : vs.length ≤ 2147483647) (hi : ∀ v ∈ vs, v.okInt) (hl : ∀ v ∈ vs, v.okLen) (hT : Tabs w) :
    Calls Tryz.prog 3 #[.slice A vs.length c] w (LawPost w) := by
  have HS := hide (simple_any vs B A c w hr hB hn hl)
  have HR := hide hr
  have HI := hide hi
  have HT := hide hT
  clear hr hi hl hT
  go_enter Tryz.func3, Tryz.ntmps3
  go_wp2_with fail
  refine (unhide HS).mono ?_
  rintro e w1 ⟨b, rfl, hfine, hb1⟩
  have HB1 := hide hb1
  clear hb1
  cases b
  · clear hfine
    go_wp2
    go_ret
    exact ⟨rfl, unhide HB1⟩
  · have hf := hfine rfl
    have HF := hide hf
    have h20 := hf.1
    have HA := hide (shownAll_any vs B A c w1 ((unhide HR).below ((unhide HB1).mono hB)) (Nat.le_trans hB (unhide HB1).size) hf.1 (unhide HI))
    have HSZ := hide (shown_size hf.2 (unhide HI))
    have hlen := shownL_len vs
    clear hfine hf
    go_wp2_with fail
    refine (unhide HA).mono ?_
    rintro e w2 ⟨v, rfl, hown, hb2⟩
    obtain ⟨A2, c2, rfl⟩ := own_slice hown
    have HO := hide (InRow.of_own hown)
    have HB2 := hide ((unhide HB1).trans (hb2.mono (unhide HB1).size))
    have HW1 := hide (unhide HB1).size
    clear hown hb2
    generalize hS : shownL vs = S at HO HSZ hlen ⊢
    have HSE := hide hS
    clear hS
    go_wp2_with fail
    go_loopw [15] (fun i wr => ∃ k : Nat, k ≤ S.length ∧ i = .int .i64 k ∧ InRow wr w1.heap.size A2 ((mix S k).map Value.string) ∧ (∀ s ∈ S.take k, asc s.data.toList) ∧ Below w.heap.size w wr) (fun i _ => S.length - (intOf i).toNat)
    case atStart => exact ⟨0, Nat.zero_le _, rfl, by simpa [mix] using unhide HO, by intro s hs; simp at hs, unhide HB2⟩
    case round =>
      obtain ⟨k, hk, rfl, hrow, hasc, hb⟩ := hrel
      have HO3 := hide hrow
      have HASC := hide hasc
      have HB3 := hide hb
      clear hrow hasc hb
      by_cases hlt : k < S.length
      · obtain ⟨g, u, rfl, hbg, hgl, hu, hcell, hfz⟩ := (unhide HO3).at_ (k := k) (by rw [List.length_map, mix_len]; exact hlt)
        rw [List.getElem?_map, mix_at S k hlt] at hu
        have hu' : Value.string S[k] = u := by simpa using hu
        subst hu'
        have HNX := hide (fun ha => asc_next hlt (unhide HASC) ha)
        have HMS := hide (mix_set S k hlt)
        have hsz := unhide HSZ S[k] (List.getElem_mem hlt)
        have HLM := hide (mix_len S k)
        clear hu
        generalize hs : S[k] = s at hcell HNX HMS hsz
        clear hs
        go_wp2_with fail
        refine (ascii_any s _ (by unfold maxLen; omega)).mono ?_
        rintro e w4 ⟨b, rfl, ha, rfl⟩
        cases b
        · clear ha
          go_wp2
          go_ret
          exact ⟨rfl, unhide HB3⟩
        · have HAS := hide (unhide HNX (ha rfl))
          clear ha
          go_wp2_with fail
          refine (quoted_any s _ hsz).mono ?_
          rintro e w5 ⟨rfl, hb5⟩
          have HO5 := hide ((unhide HO3).below hb5 (Nat.le_refl _))
          have hc5 : w5.cell? ⟨g, k, none⟩ = some (.string s) := (hb5.cell (p := ⟨g, k, none⟩) hgl).trans hcell
          have hf5 : w5.frozen? ⟨g, k, none⟩ = false := (hb5.frozen (p := ⟨g, k, none⟩) hgl).trans hfz
          have HB5 := hide ((unhide HB3).trans (hb5.mono (unhide HB3).size))
          have HO6 := hide ((unhide HO5).set_ (k := k) (by rw [List.length_map, unhide HLM]; exact hlt) (.string (qt s)))
          rw [← List.map_set, unhide HMS] at HO6
          have HB6 := hide ((unhide HB5).setCell (p := ⟨g, k, none⟩) (Nat.le_trans (unhide HW1) hbg) (.string (qt s)))
          clear hb5 hcell hfz
          go_wp2
          go_roundw
          case rel => exact ⟨k + 1, by omega, by go_num, unhide HO6, unhide HAS, unhide HB6⟩
          case measure => simp [intOf]; omega
      · obtain rfl : k = S.length := by omega
        rw [mix_end] at HO3
        rw [List.take_of_length_le (Nat.le_refl S.length)] at HASC
        have hQ := implQuote_any vs B A c wr ((unhide HR).below ((unhide HB3).mono hB)) (Nat.le_trans hB (unhide HB3).size) h20 (fun v hv => ((unhide HF).2 v hv).1) (unhide HI) (by rw [unhide HSE]; exact unhide HSZ) ((unhide HT).below (unhide HB3))
        rw [unhide HSE, ← same_text S (unhide HASC)] at hQ
        have hJ := fun (W : World) (hW : Reads W W.heap.size 1 A2 (S.map qt).length ((S.map qt).map Value.string)) => joined_any ⟨#[32]⟩ (S.map qt) W.heap.size A2 c2 W hW (by decide) (by rw [List.length_map]; omega) (fun s hs => by
          obtain ⟨r, hr, rfl⟩ := List.mem_map.1 hs
          have h1 := unhide HSZ r hr
          have h2 := qt_size r
          omega)
        generalize jn ⟨#[32]⟩ (S.map qt) (S.map qt).length = X at hQ hJ
        simp only [List.length_map] at hJ
        have HQ := hide hQ
        have HJ := hide hJ
        clear hQ hJ
        go_wp2_with fail
        refine (unhide HQ).mono ?_
        rintro e w5 ⟨rfl, hb5⟩
        have HR5 := hide (((unhide HO3).below hb5 (Nat.le_refl _)).reads)
        have HB5 := hide ((unhide HB3).trans (hb5.mono (unhide HB3).size))
        clear hb5
        have HLL : Hid ((((S.map qt).map Value.string).length) = S.length) := hide (by simp)
        rw [unhide HLL] at HR5
        go_wp2_with fail
        refine (unhide HJ _ (unhide HR5)).mono ?_
        rintro e w6 ⟨rfl, rfl⟩
        have HRA : Hid (Reads (w5.alloc (.cells #[.string ⟨#[97]⟩] 9)) (w5.alloc (.cells #[.string ⟨#[97]⟩] 9)).heap.size 1 (some ⟨w5.heap.size, 0, none⟩) 1 [.string ⟨#[97]⟩]) :=
          hide ⟨rfl, fun _ => ⟨_, rfl, by simp, cell_one_at w5 _ 9⟩⟩
        have HB6 := hide ((unhide HB5).alloc (unhide HB5).size (.cells #[.string ⟨#[97]⟩] 9))
        go_wp2_with fail
        refine (values_one ⟨#[97]⟩ _ (some ⟨w5.heap.size, 0, none⟩) 1 _ (unhide HRA) (Nat.le_refl _)).mono ?_
        rintro e w7 ⟨v, rfl, hown7, hb7⟩
        obtain ⟨A3, c3, rfl⟩ := own_slice hown7
        have HB7 := hide ((unhide HB6).trans (hb7.mono (unhide HB6).size))
        have HR7 := hide (Reads.of_own hown7)
        clear hown7 hb7
        have HQ2 := hide (quote_one A3 c3 w7 (unhide HR7) ((unhide HT).below (unhide HB7)))
        go_wp2_with fail
        refine (unhide HQ2).mono ?_
        rintro e w8 ⟨rfl, hb8⟩
        have HB8 := hide ((unhide HB7).trans (hb8.mono (unhide HB7).size))
        clear hb8
        go_wp2
        go_ret
        exact ⟨rfl, unhide HB8⟩
end Go.Proofs.YtcogodapgibceaaGreatDoor
