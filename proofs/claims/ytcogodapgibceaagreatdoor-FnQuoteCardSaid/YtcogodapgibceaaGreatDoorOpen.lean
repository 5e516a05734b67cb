/-
  From the form's reading of a list of values to its cells: each element's six cells, the ranges of its numbers and lengths.
-/
import Derived.Test.YtcogodapgibceaaGreatDoorLaw
import Derived.Deep.Slices
import Derived.Deep.Fields
import Derived.ChangeSame
import Derived.ChangeArms
import Derived.WideShapes
import Derived.OpenShut
namespace Go.Proofs.YtcogodapgibceaaGreatDoor
open Go.ChangeShapes Go.WideShapes Go.Deep

section
variable {H : Type} {enc : TypeId × Value → H} {P : Program} {w : World} {base : Nat} {spare : Nat → Bool} {held : Bool}
theorem open_slice_fields {t e : TypeId} {fs : Array Field} {fuel : Nat} {cs : List Value} {x : DataW H × List MemPlace} (ht : P.underlying t = some (.slice e)) (he : P.underlying e = some (.struct fs))
    (hone : oneCellFields P fs = true) (hC : P.cellsOf e = fs.size) (h : DataW.trod enc P w base spare held fuel t cs = some x) :
    (cs = [.slice none 0 0] ∧ x = (.nil, [])) ∨
    ∃ (a : Addr) (len cap m : Nat) (D : Nat → DataW H) (Pl : Nat → List MemPlace), cs = [.slice (some a) len cap] ∧ base ≤ a.block ∧ len ≤ cap ∧ cap ≤ maxLen ∧ m = (if spare a.block then cap else len) ∧
      x = (.slice ((List.range len).map D) ((List.range (m - len)).map fun j => D (len + j)), MemPlace.row a (m * fs.size) ++ (List.range m).flatMap Pl) ∧
      ∀ i, i < m → ∃ (ys : List (DataW H × List MemPlace)) (n : Nat), D i = .agg (ys.map (·.1)) ∧ Pl i = ys.flatMap (·.2) ∧ ys.length = fs.size ∧
        ∀ (j : Nat) (f : Field), fs[j]? = some f → ∃ (v : Value) (y : DataW H × List MemPlace), w.cell? (a.add (i * fs.size + j)) = some v ∧ ys[j]? = some y ∧ DataW.trod enc P w base spare held n f.type [v] = some y := by
  rcases open_slice ht h with h0 | ⟨a, len, cap, m, n, D, Pl, hcs, hb, hl, hm, hmm, hx, hi⟩
  · exact .inl h0
  · refine .inr ⟨a, len, cap, m, D, Pl, hcs, hb, hl, hm, hmm, by rw [hC] at hx; exact hx, fun i him => ?_⟩
    obtain ⟨cs', hc, ht'⟩ := hi i him
    rw [hC] at hc
    obtain ⟨ys, n', hn', hy, hlen, hyl, hf⟩ := DataW.trod_struct he ht'
    obtain ⟨_, hcl, hat⟩ := World.cells?_some hc
    simp only [Prod.mk.injEq] at hy
    refine ⟨ys, n', hy.1, hy.2, hyl, fun j f hj => ?_⟩
    obtain ⟨ho, hk⟩ := hone_of hone j f hj
    have hjl : j < fs.size := (Array.getElem?_eq_some_iff.1 hj).1
    have hcell := hat j hjl
    have hv : cs'[j]? = some (cs'[j]'(by omega)) := List.getElem?_eq_getElem (by omega)
    have h1 := hf j f hj
    rw [ho, hk] at h1
    have hone' : (cs'.drop j).take 1 = [cs'[j]'(by omega)] := by
      rw [List.drop_eq_getElem_cons (by omega)]
      rfl
    rw [hone'] at h1
    have hys : ys[j]? = some (ys[j]'(by omega)) := List.getElem?_eq_getElem (by omega)
    refine ⟨_, _, ?_, hys, h1.trans hys⟩
    rw [← Go.Deep.add_add, hcell, hv]
theorem open_float {t : TypeId} {k : FloatKind} {fuel : Nat} {cs : List Value} {x : DataW H × List MemPlace} (ht : P.underlying t = some (.float k)) (h : DataW.trod enc P w base spare held fuel t cs = some x) : ∃ b, cs = [.float k b] := by
  cases fuel with
  | zero => simp [DataW.trod] at h
  | succ n =>
    unfold DataW.trod at h
    rw [ht] at h
    split at h <;> simp_all
theorem open_header {t e : TypeId} {fuel : Nat} {cs : List Value} {x : DataW H × List MemPlace} (ht : P.underlying t = some (.slice e)) (h : DataW.trod enc P w base spare held fuel t cs = some x) : ∃ A n c, cs = [.slice A n c] ∧ n ≤ maxLen := by
  rcases DataW.trod_slice ht h with ⟨h0, _⟩ | ⟨a, len, cap, elems, rest, n, _, hc, _, _, hl, hm, _⟩
  · exact ⟨_, _, _, h0, Nat.zero_le _⟩
  · exact ⟨_, _, _, hc, Nat.le_trans hl hm⟩
end

theorem cells33 : Tryz.prog.cellsOf 33 = 6 := by kernel_rfl

/-- AN ELEMENT OPENED. -/
theorem open_val {H : Type} {enc : TypeId × Value → H} {w : World} {base : Nat} {spare : Nat → Bool} {held : Bool} {pa : Nat → Addr} {n : Nat} {ys : List (DataW H × List MemPlace)}
    (h : ∀ (j : Nat) (f : Field), (#[{ name := "Kind", type := 3, offset := 0, embedded := false, tag := "", pkgPath := "", byteOffset := 0 },
        { name := "Int", type := 2, offset := 1, embedded := false, tag := "", pkgPath := "", byteOffset := 8 },
        { name := "Real", type := 31, offset := 2, embedded := false, tag := "", pkgPath := "", byteOffset := 16 },
        { name := "Text", type := 9, offset := 3, embedded := false, tag := "", pkgPath := "", byteOffset := 24 },
        { name := "Keys", type := 24, offset := 4, embedded := false, tag := "", pkgPath := "", byteOffset := 40 },
        { name := "List", type := 22, offset := 5, embedded := false, tag := "", pkgPath := "", byteOffset := 64 }] : Array Field)[j]? = some f →
      ∃ (v : Value) (y : DataW H × List MemPlace), w.cell? (pa j) = some v ∧ ys[j]? = some y ∧ DataW.trod enc Tryz.prog w base spare held n f.type [v] = some y) :
    ∃ v : Val, v.okInt ∧ v.okLen ∧ ∀ j u, v.cells[j]? = some u → w.cell? (pa j) = some u := by
  obtain ⟨v0, _, c0, _, t0⟩ := h 0 _ rfl
  obtain ⟨v1, _, c1, _, t1⟩ := h 1 _ rfl
  obtain ⟨v2, _, c2, _, t2⟩ := h 2 _ rfl
  obtain ⟨v3, _, c3, _, t3⟩ := h 3 _ rfl
  obtain ⟨v4, _, c4, _, t4⟩ := h 4 _ rfl
  obtain ⟨v5, _, c5, _, t5⟩ := h 5 _ rfl
  obtain ⟨kd, e0, _, _⟩ := DataW.trod_int Tryz.underlying3 t0
  obtain ⟨z, e1, _, hw⟩ := DataW.trod_int Tryz.underlying2 t1
  obtain ⟨re, e2⟩ := open_float Tryz.underlying31 t2
  obtain ⟨s, e3, _, hs⟩ := DataW.trod_string Tryz.underlying9 t3
  obtain ⟨ka, kn, kc, e4, hk⟩ := open_header Tryz.underlying24 t4
  obtain ⟨la, ln, lc, e5, hl⟩ := open_header Tryz.underlying22 t5
  obtain rfl : v0 = .int .i64 kd := by simpa using e0
  obtain rfl : v1 = .int .i64 z := by simpa using e1
  obtain rfl : v2 = .float .f64 re := by simpa using e2
  obtain rfl : v3 = .string s := by simpa using e3
  obtain rfl : v4 = .slice ka kn kc := by simpa using e4
  obtain rfl : v5 = .slice la ln lc := by simpa using e5
  refine ⟨⟨kd, z, re, s, ka, kn, kc, la, ln, lc⟩, ?_, ⟨hs, hk, hl⟩, ?_⟩
  · exact bounds_i64 hw
  · intro j u hu
    match j, hu with
    | 0, hu => cases hu; exact c0
    | 1, hu => cases hu; exact c1
    | 2, hu => cases hu; exact c2
    | 3, hu => cases hu; exact c3
    | 4, hu => cases hu; exact c4
    | 5, hu => cases hu; exact c5
    | j + 6, hu => simp [Val.cells] at hu

theorem flat_len6 (vs : List Val) : (vs.flatMap Val.cells).length = vs.length * 6 := by
  induction vs with
  | nil => rfl
  | cons v vs ih =>
    rw [List.flatMap_cons, List.length_append, ih, List.length_cons]
    have : v.cells.length = 6 := rfl
    omega

/-- THE ARGUMENT OPENED. -/
theorem open_list {H : Type} {enc : TypeId × Value → H} {w : World} {spare : Nat → Bool} {held : Bool} {fuel : Nat} {A : Option Addr} {n c : Nat} {x : DataW H × List MemPlace}
    (h : DataW.trod enc Tryz.prog w 0 spare held fuel 22 [.slice A n c] = some x) :
    n ≤ maxLen ∧ ∃ vs : List Val, vs.length = n ∧ Reads w w.heap.size 6 A n (vs.flatMap Val.cells) ∧ (∀ v ∈ vs, v.okInt) ∧ (∀ v ∈ vs, v.okLen) := by
  rcases open_slice_fields Tryz.underlying22 Tryz.underlying33 (by kernel_rfl) cells33 h with ⟨h0, _⟩ | ⟨a, len, cap, m, D, Pl, hcs, _, hl, hm, hmm, _, hi⟩
  · obtain ⟨rfl, rfl, rfl⟩ : A = none ∧ n = 0 ∧ c = 0 := by simpa using h0
    exact ⟨Nat.zero_le _, [], rfl, ⟨rfl, fun h => absurd h (by omega)⟩, (fun v hv => by cases hv), (fun v hv => by cases hv)⟩
  · obtain ⟨rfl, rfl, rfl⟩ : A = some a ∧ n = len ∧ c = cap := by simpa using hcs
    have hnm : n ≤ m := by rw [hmm]; split <;> omega
    have hv : ∀ i, i < n → ∃ v : Val, v.okInt ∧ v.okLen ∧ ∀ j u, v.cells[j]? = some u → w.cell? (a.add (i * 6 + j)) = some u := by
      intro i hin
      obtain ⟨ys, k, _, _, _, hf⟩ := hi i (by omega)
      exact open_val (pa := fun j => a.add (i * 6 + j)) hf
    have hF : ∃ F : Nat → Val, ∀ i, i < n → (F i).okInt ∧ (F i).okLen ∧ ∀ j u, (F i).cells[j]? = some u → w.cell? (a.add (i * 6 + j)) = some u :=
      ⟨fun i => if hin : i < n then Classical.choose (hv i hin) else textVal ⟨#[]⟩, fun i hin => by
        simp only [dif_pos hin]
        exact Classical.choose_spec (hv i hin)⟩
    obtain ⟨F, hF⟩ := hF
    have hlen : ((List.range n).map F).length = n := by simp
    refine ⟨Nat.le_trans hl hm, (List.range n).map F, hlen, ⟨by rw [flat_len6, hlen], fun hn => ⟨a, rfl, ?_, fun j u hu => ?_⟩⟩, ?_, ?_⟩
    · have h1 := (hF 0 hn).2.2 0 _ rfl
      have h2 := World.block_lt_of_cell? w _ h1
      rwa [block_of_add] at h2
    · have hj : j < n * 6 := by
        have := (List.getElem?_eq_some_iff.1 hu).1
        rwa [flat_len6, hlen] at this
      have hin : j / 6 < n := by omega
      have hs : ((List.range n).map F)[j / 6]? = some (F (j / 6)) := by simp [List.getElem?_range hin]
      rw [show j = j / 6 * 6 + j % 6 by omega, flat_at _ _ _ _ hs (by omega)] at hu
      have := (hF (j / 6) hin).2.2 (j % 6) u hu
      rwa [show j / 6 * 6 + j % 6 = j by omega] at this
    · intro v hv
      obtain ⟨i, hin, rfl⟩ := List.mem_map.1 hv
      exact (hF i (List.mem_range.1 hin)).1
    · intro v hv
      obtain ⟨i, hin, rfl⟩ := List.mem_map.1 hv
      exact (hF i (List.mem_range.1 hin)).2.1
end Go.Proofs.YtcogodapgibceaaGreatDoor
