/-
  The plain laws: strconv.Quote's text of an ASCII text is what spec.Quoted writes; strings.Join is what spec.Joined writes. No program in sight.
-/
import Derived.Test.YtcogodapgibceaaGreatDoorSprigQuote
import Derived.Test.YtcogodapgibceaaGreatDoorJoined
import Derived.Test.YtcogodapgibceaaGreatDoorQuoted
namespace Go.Proofs.YtcogodapgibceaaGreatDoor

/-- What spec.Quoted writes of s. -/
def qt (s : ByteArray) : ByteArray := ⟨(quotedL s.data.toList).toArray⟩

theorem esc_byte_fin : ∀ c : Fin 128, (Lib.escRune Lib.goPrintTabs (c.val : Int)).map (fun n => UInt8.ofNat n.toNat) = qb (UInt8.ofNat c.val) := by decide +kernel
theorem esc_byte (c : UInt8) (h : c.toNat < 128) : (Lib.escRune Lib.goPrintTabs (c.toNat : Int)).map (fun n => UInt8.ofNat n.toNat) = qb c := by
  have := esc_byte_fin ⟨c.toNat, h⟩
  rw [show UInt8.ofNat c.toNat = c from UInt8.ofNat_toNat] at this
  exact this

theorem tail_data (s : ByteArray) (c : UInt8) (l : List UInt8) (h : s.data.toList = c :: l) : (s.extract 1 s.size).data.toList = l := by
  have hs : s.size = l.length + 1 := by
    have : s.data.toList.length = s.size := by simp
    rw [← this, h]; rfl
  rw [ByteArray.data_extract, Array.toList_extract, h, hs]
  simp

theorem quoteFrom_asc : ∀ (l : List UInt8) (s : ByteArray) (f : Nat), s.data.toList = l → asc l → l.length ≤ f →
    (Lib.quoteFrom Lib.goPrintTabs f s).map (fun n => UInt8.ofNat n.toNat) = l.flatMap qb := by
  intro l
  induction l with
  | nil =>
    intro s f hs _ _
    have h0 : ¬ 0 < s.size := by
      have : s.data.toList.length = s.size := by simp
      rw [hs] at this
      simp at this
      omega
    rw [Lib.quoteFrom_end _ f s h0]
    rfl
  | cons c l ih =>
    intro s f hs ha hf
    have hsz : s.size = l.length + 1 := by
      have : s.data.toList.length = s.size := by simp
      rw [← this, hs]; rfl
    have h0 : 0 < s.size := by omega
    have hc : s[0] = c := by
      have h1 := byte_at s 0 h0
      rw [hs] at h1
      simpa using h1.symm
    have hc128 : c.toNat < 128 := ha c (List.mem_cons_self ..)
    have hd : Utf8.decode s 0 = (c.toNat, 1) := by
      have := decode_ascii s 0 h0 (by rw [hc]; exact hc128)
      rw [hc] at this
      exact this
    simp only [List.length_cons] at hf
    rw [Lib.quoteFrom_step _ f s h0 (by omega), hd, List.map_append, List.flatMap_cons]
    have hst : Lib.quoteStep Lib.goPrintTabs s = Lib.escRune Lib.goPrintTabs (c.toNat : Int) := by
      unfold Lib.quoteStep
      rw [hd, if_neg (by simp only; omega)]
    rw [hst, esc_byte c hc128, ih (s.extract 1 s.size) (f - 1) (tail_data s c l hs) (fun d hd => ha d (List.mem_cons_of_mem _ hd)) (by omega)]

/-- strconv.Quote's text of an ASCII text. -/
theorem qz_qt (s : ByteArray) (h : asc s.data.toList) : qz s = qt s := by
  unfold qz qt strOfNums quotedL Lib.quoteZ
  congr 2
  rw [List.map_cons, List.map_append, quoteFrom_asc s.data.toList s s.size rfl h (by simp)]
  rfl

theorem jn_join (x : ByteArray) (r : List ByteArray) (b : ByteArray) : ∀ k, k ≤ r.length → jn b (x :: r) (k + 1) = ⟨(x.data.toList ++ Lib.joinTail b.data.toList ((r.map (·.data.toList)).take k)).toArray⟩ := by
  intro k
  induction k with
  | zero =>
    intro _
    apply ByteArray.ext
    simp [jn, Lib.joinTail]
  | succ k ih =>
    intro hk
    have hlt : k < r.length := by omega
    rw [jn, if_pos (by omega), ih (by omega)]
    have hg : (x :: r).getD (k + 1) ⟨#[]⟩ = r[k] := by simp [List.getD, List.getElem?_eq_getElem hlt]
    rw [hg, Lib.joinTail_take_succ b.data.toList (r.map (·.data.toList)) k (r[k]).data.toList (by rw [List.getElem?_map, List.getElem?_eq_getElem hlt]; rfl)]
    apply ByteArray.ext
    simp [ByteArray.data_append]
theorem joinB_jn (xs : List ByteArray) : jn ⟨#[32]⟩ xs xs.length = joinB xs := by
  unfold joinB
  cases xs with
  | nil => rfl
  | cons x r =>
    rw [List.length_cons, jn_join x r ⟨#[32]⟩ r.length (Nat.le_refl _), List.map_cons, Lib.join_cons]
    rw [List.take_of_length_le (by simp)]

theorem joinB_one (x : ByteArray) : joinB [x] = x := by
  unfold joinB
  rw [List.map_cons, List.map_nil, Lib.join_one]
theorem qz_a : qz ⟨#[97]⟩ = ⟨#[34, 97, 34]⟩ := by
  rw [qz_qt ⟨#[97]⟩ (by intro c hc; simp at hc; subst hc; decide)]
  decide +kernel
theorem qt_size (s : ByteArray) : (qt s).size ≤ 4 * s.size + 2 := by
  have h := quotedL_len s.data.toList
  have e : s.data.toList.length = s.size := by simp
  rw [e] at h
  unfold qt
  simp only [ByteArray.size, List.size_toArray] at h ⊢
  exact h

/-- Every text that is written is short. -/
theorem shown_size {vs : List Val} (hf : ∀ v ∈ vs, v.plainKind ∧ v.tx.size ≤ 500) (hi : ∀ v ∈ vs, v.okInt) : ∀ s ∈ shownL vs, s.size ≤ 500 := by
  intro s hs
  obtain ⟨v, hv, h⟩ := List.mem_filterMap.1 hs
  have h1 := (hf v hv).2
  have h2 := hi v hv
  unfold Val.okInt at h2
  have h3 := Lib.itoa_length_le v.n h2.1 h2.2
  unfold Val.shown at h
  split at h
  · split at h <;> (injection h with h; subst h; decide)
  · split at h
    · injection h with h
      subst h
      simp only [ByteArray.size, List.size_toArray]
      omega
    · split at h
      · injection h with h
        subst h
        simp only [ByteArray.size, List.size_toArray]
        omega
      · split at h
        · injection h with h
          subst h
          exact h1
        · cases h
end Go.Proofs.YtcogodapgibceaaGreatDoor
