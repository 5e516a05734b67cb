/-
  sprig's quote: the texts of at most 20 simple values, without those that are nil, each by strconv.Quote, with blanks between.
-/
import Derived.Test.YtcogodapgibceaaGreatDoorText
namespace Go.Proofs.YtcogodapgibceaaGreatDoor
open Go.RowKit

/-- strconv.Quote's text of s. -/
def qz (s : ByteArray) : ByteArray := strOfNums (Lib.quoteZ Lib.goPrintTabs s)
theorem qz_size (s : ByteArray) : (qz s).size ≤ 10 * s.size + 2 := by unfold qz; rw [strOfNums_size]; exact Lib.quoteZ_length_le _ s
theorem quote_any (s : ByteArray) (w : World) (hs : s.size ≤ 500) (hT : Tabs w) : Calls Tryz.prog 21 #[.string s] w (TextPost (qz s) w) :=
  Tryz.strconv_Quote Lib.goPrintTabs s w (by omega) hT.2.1 hT.2.2

def joinB (xs : List ByteArray) : ByteArray := ⟨(Lib.join (xs.map (·.data.toList)) [32]).toArray⟩
theorem lens_le (xs : List ByteArray) (h : ∀ x ∈ xs, x.size ≤ 6000) : Lib.lens (xs.map (·.data.toList)) ≤ 6000 * xs.length := by
  induction xs with
  | nil => simp [Lib.lens]
  | cons x r ih =>
    have h1 := h x (List.mem_cons_self ..)
    have h2 := ih (fun y hy => h y (List.mem_cons_of_mem _ hy))
    have h3 : x.data.toList.length = x.size := by simp
    simp only [Lib.lens, List.map_cons, List.length_cons, List.sum_cons] at h2 ⊢
    omega
theorem join_le (xs : List ByteArray) (hn : xs.length ≤ 20) (h : ∀ x ∈ xs, x.size ≤ 6000) : (Lib.join (xs.map (·.data.toList)) [32]).length ≤ 130000 := by
  have h1 := lens_le xs h
  cases xs with
  | nil => simp [Lib.join]
  | cons x r =>
    rw [List.map_cons] at h1 ⊢
    rw [Lib.join_length]
    simp only [List.length_cons, List.length_map, List.length_nil] at h1 hn ⊢
    omega

theorem join_any (v : Value) (xs : List ByteArray) (base : Nat) (w : World) (hown : w.ownsRow base 9 1 v xs.length (xs.map Value.string)) (hn : xs.length ≤ 20) (h : ∀ x ∈ xs, x.size ≤ 6000) :
    Calls Tryz.prog 23 #[v, .string ⟨#[32]⟩] w (TextPost (joinB xs) w) := by
  rcases hown.2 with ⟨rfl, h0⟩ | ⟨g, cap, cur, rfl, hb, hg, hnc, _⟩
  · have hx : xs = [] := List.eq_nil_of_length_eq_zero h0
    subst hx
    exact (Tryz.strings_Join_none none 0 ⟨#[32]⟩ w).mono fun e w' ⟨he, hw⟩ => ⟨he, hw ▸ Below.refl _ _⟩
  · refine Tryz.strings_Join g 0 cap xs ⟨#[32]⟩ w (fun j x hx => ?_) (Array.getElem?_eq_some_iff.1 hg).1 (by omega) hnc ?_
    · have hc := hown.cells (g := g) rfl j (.string x) (by rw [List.getElem?_map, hx]; rfl)
      rw [show (⟨g, 0, none⟩ : Addr).add j = ⟨g, 0 + j, none⟩ by unfold Addr.add; split <;> simp_all] at hc
      exact hc
    · have := join_le xs hn h
      show (Lib.join (xs.map (·.data.toList)) [32]).length ≤ _
      omega

theorem not_nil (t : TypeId) (u : Value) (w : World) : (binOp .neq 20 (.iface t u) .nilIface).run Tryz.prog w = .ok (.bool true) w := by kernel_rfl
theorem is_nil (w : World) : (binOp .neq 20 .nilIface .nilIface).run Tryz.prog w = .ok (.bool false) w := by kernel_rfl

theorem qz_next {l : List Val} {v : Val} {s : ByteArray} (h : v.shown = some s) : (shownL (l ++ [v])).map qz = (shownL l).map qz ++ [qz s] := by rw [shownL_some h]; simp

set_option maxRecDepth 100000 in
set_option maxHeartbeats 1000000 in
theorem sprigQuote_any (vs : List Val) (B : Nat) (A : Option Addr) (c : Nat) (w : World) (hr : Reads w B 1 A vs.length (vs.map Val.goV)) (hB : B ≤ w.heap.size) (hn : vs.length ≤ 20) (hp : ∀ v ∈ vs, v.plainKind) (hi : ∀ v ∈ vs, v.okInt)
    (hs : ∀ s ∈ shownL vs, s.size ≤ 500) (hT : Tabs w) :
    Calls Tryz.prog 18 #[.slice A vs.length c] w (TextPost (joinB ((shownL vs).map qz)) w) := by
  obtain ⟨i0, hi0, hz0, hz1, hz2⟩ := info_parts info9
  have HR := hide hr
  have HP := hide hp
  have HI := hide hi
  have HS := hide hs
  have HT := hide hT
  clear hr hp hi hs hT
  go_enter Tryz.func18, Tryz.ntmps18
  go_wp2_with (at_make; refine wpList_make_own _ rfl _ _ 24 rfl w.heap.size 9 i0 (.string ⟨#[]⟩) 1 Tryz.underlying24 hi0 hz0 hz1 _ _ _ vs.length rfl rfl rfl (by rw [hz2]; omega) (by unfold maxLen; omega) (Nat.le_refl _) ?_; intro w1 hown1 hg1)
  have HO1 := hide hown1
  have HB1 := hide ((Below.refl w.heap.size w).grown hg1 (Nat.le_refl _) (by intro k hk; cases hk))
  clear hown1 hg1
  go_wp2
  go_loopw [3, 11] (fun o i wr => ∃ k : Nat, k ≤ vs.length ∧ i = .int .i64 k ∧ wr.ownsRow w.heap.size 9 1 o (shownL (vs.take k)).length (((shownL (vs.take k)).map qz).map Value.string) ∧ Below w.heap.size w wr) (fun _ i _ => vs.length - (intOf i).toNat)
  case atStart => exact ⟨0, Nat.zero_le _, rfl, by simpa [shownL] using unhide HO1, unhide HB1⟩
  case round =>
    obtain ⟨k, hk, rfl, hown, hb⟩ := hrel
    have HO := hide hown
    have HB := hide hb
    clear hown hb
    by_cases hlt : k < vs.length
    · obtain ⟨ad, u, rfl, hbl, hu, hcell⟩ := ((unhide HR).below ((unhide HB).mono hB)).at_ hlt
      obtain ⟨v, hv, rfl⟩ : ∃ v, vs[k]? = some v ∧ v.goV = u := by
        rw [List.getElem?_map, List.getElem?_eq_getElem hlt] at hu
        exact ⟨vs[k], List.getElem?_eq_getElem hlt, by simpa using hu⟩
      have hmem := List.mem_of_getElem? hv
      have hlen := Nat.le_trans (shownL_len (vs.take k)) (List.length_take_le k vs)
      have HT1 := hide (take_next hv)
      rcases hsh : v.shown with _ | s
      · have hg := goV_none (unhide HP v hmem) hsh
        rw [hg] at hcell
        have HN := hide (shownL_none (l := vs.take k) hsh)
        rw [← unhide HT1] at HN
        clear hsh hg hmem hv hu
        have nn := is_nil
        go_wp2
        go_roundw
        case rel => exact ⟨k + 1, by omega, by go_num, by rw [unhide HN]; exact unhide HO, unhide HB⟩
        case measure => simp [intOf]; omega
      · have HTv := hide (fun W hW => strval_any v s W (unhide HP v hmem) (unhide HI v hmem) hsh hW)
        obtain ⟨t, x, hg⟩ := goV_some (unhide HP v hmem) hsh
        rw [hg] at hcell HTv
        have HN := hide (qz_next (l := vs.take k) hsh)
        have HL := hide (congrArg List.length (shownL_some (l := vs.take k) hsh))
        rw [← unhide HT1] at HN HL
        have HZ := hide (unhide HS s (List.mem_filterMap.2 ⟨v, hmem, hsh⟩))
        clear hsh hg hmem hv hu
        have nn := not_nil t x
        go_wp2_with fail
        refine (unhide HTv _ ((unhide HT).below (unhide HB))).mono ?_
        rintro e w2 ⟨rfl, hb2⟩
        have HB2 := hide ((unhide HB).trans (hb2.mono (unhide HB).size))
        have HO2 := hide (own_below (unhide HO) hb2)
        clear hb2
        go_wp2_with fail
        refine (quote_any s _ (unhide HZ) ((unhide HT).below (unhide HB2))).mono ?_
        rintro e w3 ⟨rfl, hb3⟩
        have HB3 := hide ((unhide HB2).trans (hb3.mono (unhide HB2).size))
        have HO3 := hide (own_below (unhide HO2) hb3)
        clear hb3
        go_wp2_with (at_builtin; refine wpList_append_own _ rfl _ _ 24 rfl w.heap.size 9 i0 (.string ⟨#[]⟩) 1 16 Tryz.underlying24 hi0 hz0 hz1 hz2 rfl (by decide) _ _ _ rfl ((unhide HO3).alloc _) ⟨w3.heap.size, 0, none⟩ 1 1 [.string (qz s)] rfl rfl ?c1 ?c2 ?c3 ?c4 ?c5 ?_)
        case c1 => exact cell_one_at w3 _ 9
        case c2 => intro z hz; obtain rfl := List.mem_singleton.1 hz
                   rfl
        case c3 => unfold maxLen; omega
        case c4 => omega
        case c5 => exact Nat.le_trans (unhide HB3).size (by simp)
        intro v' w4 hown4 hg4 _
        have HO4 := hide hown4
        have HB4 := hide (((unhide HB3).alloc (unhide HB3).size _).grown hg4 (Nat.le_trans (unhide HB3).size (by simp)) fun g hg => ((unhide HO).lt g hg).1)
        rw [← List.map_map] at HO4
        clear hown4 hg4
        go_wp2
        go_roundw
        case rel => exact ⟨k + 1, by omega, by go_num, by rw [unhide HL, unhide HN, List.length_append, List.map_append]; exact unhide HO4, unhide HB4⟩
        case measure => simp [intOf]; omega
    · obtain rfl : k = vs.length := by omega
      rw [List.take_of_length_le (Nat.le_refl vs.length)] at HO
      have hlen := shownL_len vs
      have HJ := hide (join_any u3 ((shownL vs).map qz) w.heap.size wr (by rw [List.length_map]; exact unhide HO) (by rw [List.length_map]; omega) (by
        intro x hx
        obtain ⟨s, hs, rfl⟩ := List.mem_map.1 hx
        have h1 := unhide HS s hs
        have h2 := qz_size s
        omega))
      go_wp2_with (go_at_call 23; refine (unhide HJ).mono ?_; rintro e w2 ⟨rfl, hb2⟩)
      go_ret
      exact ⟨rfl, (unhide HB).trans (hb2.mono (unhide HB).size)⟩
end Go.Proofs.YtcogodapgibceaaGreatDoor
