/-
  A start of laws.FnQuote that meets the row's list of laid variables: the witness world, its pieces, that its variables fit. Conditions: none; this is the witness that the row's form asks for.
-/
import Derived.Test.YtcogodapgibceaaGreatDoorRows
import Derived.Test.YtcogodapgibceaaGreatDoorWhole
import Derived.Deep.DeepHandedRow
import Derived.Deep.DeepWitnessRowRef
import Derived.Lib.LaidIn
import Derived.Lib.LaidSlice
namespace Go.Proofs.YtcogodapgibceaaGreatDoor
open Go.ChangeShapes Go.WideShapes Go.ChangeAt Go.RowKit Go.Lib

noncomputable abbrev N0 : Nat := (World.settled Tryz.prog default).heap.size
def cheatCells : Array Value := (Go.Pinned.cheatRows.flatMap fun x => [Value.int .i64 (x.1 : Int), Value.string ⟨x.2.toArray⟩]).toArray
def powCells : Array Value := (Go.Pinned.pow10Rows.flatMap fun x => [Value.int .u64 (x.1 : Int), Value.int .u64 (x.2 : Int)]).toArray
def numCells (k : IntKind) (l : List Int) : Array Value := (l.map fun z => Value.int k z).toArray

def bruijn32 : List Int := [0, 1, 28, 2, 29, 14, 24, 3, 30, 22, 20, 15, 25, 17, 4, 8, 31, 27, 13, 23, 21, 19, 16, 7, 26, 12, 18, 6, 11, 5, 10, 9]
def bruijn64 : List Int := [0, 1, 56, 2, 57, 49, 28, 3, 61, 58, 42, 50, 38, 29, 17, 4, 62, 47, 59, 36, 45, 43, 51, 22, 53, 39, 33, 30, 24, 18, 12, 5, 63, 55, 48, 27, 60, 41, 37, 16, 46, 35, 44, 21, 52, 32, 23, 11, 54, 26, 40, 15, 34, 20, 31, 10, 25, 14, 19, 9, 13, 8, 7, 6]

/-- THE WITNESS: the settled world with six blocks more (the slices' rows), the listed variables holding what their initialisers lay. -/
noncomputable def laidWorld (os : Os) : World :=
  let N := (World.settled Tryz.prog os).heap.size
  let T := Lib.goPrintTabs
  let w0 := World.holding Tryz.prog os ⟨#[.cells cheatCells 160, .cells (intCellsOf .u16 Go.Pinned.isGraphicZ) 94, .cells (intCellsOf .u16 T.n16) 94, .cells (intCellsOf .u16 T.n32) 94, .cells (intCellsOf .u16 T.p16) 94, .cells (intCellsOf .u32 T.p32) 98], #[], []⟩
  let put (h : Array Obj) (g : Nat) (cs : Array Value) : Array Obj := h.modify g fun
    | .cells _ t frozen => .cells cs t frozen
    | o => o
  let h1 := put w0.heap 1 (numCells .u8 Lib.firstTab)
  let h2 := put h1 2 ((List.range 16).flatMap fun i => [Value.int .u8 (Lib.accLo i), Value.int .u8 (Lib.accHi i)]).toArray
  let h3 := put h2 3 #[.slice (some ⟨N + 4, 0, none⟩) T.p16.length T.p16.length]
  let h4 := put h3 4 #[.slice (some ⟨N + 2, 0, none⟩) T.n16.length T.n16.length]
  let h5 := put h4 5 #[.slice (some ⟨N + 5, 0, none⟩) T.p32.length T.p32.length]
  let h6 := put h5 6 #[.slice (some ⟨N + 3, 0, none⟩) T.n32.length T.n32.length]
  let h7 := put h6 7 #[.slice (some ⟨N + 1, 0, none⟩) Go.Pinned.isGraphicZ.length Go.Pinned.isGraphicZ.length]
  let h8 := put h7 8 (numCells .u64 Lib.pow10Tab)
  let h9 := put h8 9 #[.bool true]
  let h10 := put h9 10 (numCells .u8 bruijn32)
  let h11 := put h10 11 (numCells .u8 bruijn64)
  let h12 := put h11 12 powCells
  let h13 := put h12 13 #[.slice (some ⟨N, 0, none⟩) Go.Pinned.cheatRows.length Go.Pinned.cheatRows.length]
  { w0 with heap := h13 }

noncomputable abbrev LW (os : Os) (args : Array Value) : World := ((laidWorld os).forCall (fun _ _ => 0) ⟨#[], args, []⟩).memory

set_option maxRecDepth 1000000 in
theorem pieceA (os : Os) (args : Array Value) : LaidIn Tryz.prog (LW os args) [("math/bits.deBruijn32tab", Rows.laid_math_bits_deBruijn32tab), ("math/bits.deBruijn64tab", Rows.laid_math_bits_deBruijn64tab), ("internal/strconv.optimize", Rows.laid_internal_strconv_optimize), ("internal/strconv.uint64pow10", Rows.laid_internal_strconv_uint64pow10), ("unicode/utf8.acceptRanges", Rows.laid_unicode_utf8_acceptRanges)] [10, 11, 9, 8, 2] :=
  LaidIn.of_run [10, 11, 9, 8, 2] 8 (by kernel_rfl) (by kernel_rfl) (by kernel_rfl) (by kernel_rfl)
set_option maxRecDepth 1000000 in
theorem pieceF (os : Os) (args : Array Value) : LaidIn Tryz.prog (LW os args) [("unicode/utf8.first", Lib.firstData)] [1] :=
  LaidIn.of_run [1] 8 (by kernel_rfl) (by kernel_rfl) (by kernel_rfl) (by kernel_rfl)
set_option maxRecDepth 1000000 in
theorem piece3 (os : Os) (args : Array Value) : LaidIn Tryz.prog (LW os args) [("strconv.isPrint16", Lib.sliceData .u16 Lib.goPrintTabs.p16)] [3, N0 + 4] :=
  laidIn_slice (t := 95) (e := 94) (te := 94) Lib.goPrintTabs.p16 (N0 + 4) (by kernel_rfl) (by kernel_rfl) Tryz.underlying95 Tryz.underlying94 (by kernel_rfl) (by kernel_rfl) (by kernel_rfl) (by kernel_rfl) (of_decide_eq_true (by kernel_rfl)) (of_decide_eq_true (by kernel_rfl))
set_option maxRecDepth 1000000 in
theorem piece4 (os : Os) (args : Array Value) : LaidIn Tryz.prog (LW os args) [("strconv.isNotPrint16", Lib.sliceData .u16 Lib.goPrintTabs.n16)] [4, N0 + 2] :=
  laidIn_slice (t := 95) (e := 94) (te := 94) Lib.goPrintTabs.n16 (N0 + 2) (by kernel_rfl) (by kernel_rfl) Tryz.underlying95 Tryz.underlying94 (by kernel_rfl) (by kernel_rfl) (by kernel_rfl) (by kernel_rfl) (of_decide_eq_true (by kernel_rfl)) (of_decide_eq_true (by kernel_rfl))
set_option maxRecDepth 1000000 in
theorem piece5 (os : Os) (args : Array Value) : LaidIn Tryz.prog (LW os args) [("strconv.isPrint32", Lib.sliceData .u32 Lib.goPrintTabs.p32)] [5, N0 + 5] :=
  laidIn_slice (t := 99) (e := 98) (te := 98) Lib.goPrintTabs.p32 (N0 + 5) (by kernel_rfl) (by kernel_rfl) Tryz.underlying99 Tryz.underlying98 (by kernel_rfl) (by kernel_rfl) (by kernel_rfl) (by kernel_rfl) (of_decide_eq_true (by kernel_rfl)) (of_decide_eq_true (by kernel_rfl))
set_option maxRecDepth 1000000 in
theorem piece6 (os : Os) (args : Array Value) : LaidIn Tryz.prog (LW os args) [("strconv.isNotPrint32", Lib.sliceData .u16 Lib.goPrintTabs.n32)] [6, N0 + 3] :=
  laidIn_slice (t := 95) (e := 94) (te := 94) Lib.goPrintTabs.n32 (N0 + 3) (by kernel_rfl) (by kernel_rfl) Tryz.underlying95 Tryz.underlying94 (by kernel_rfl) (by kernel_rfl) (by kernel_rfl) (by kernel_rfl) (of_decide_eq_true (by kernel_rfl)) (of_decide_eq_true (by kernel_rfl))
set_option maxRecDepth 1000000 in
theorem piece7 (os : Os) (args : Array Value) : LaidIn Tryz.prog (LW os args) [("strconv.isGraphic", Lib.sliceData .u16 Go.Pinned.isGraphicZ)] [7, N0 + 1] :=
  laidIn_slice (t := 95) (e := 94) (te := 94) Go.Pinned.isGraphicZ (N0 + 1) (by kernel_rfl) (by kernel_rfl) Tryz.underlying95 Tryz.underlying94 (by kernel_rfl) (by kernel_rfl) (by kernel_rfl) (by kernel_rfl) (of_decide_eq_true (by kernel_rfl)) (of_decide_eq_true (by kernel_rfl))
set_option maxRecDepth 1000000 in
theorem pieceC (os : Os) (args : Array Value) : LaidIn Tryz.prog (LW os args) [("internal/strconv.leftcheats", Rows.laid_internal_strconv_leftcheats)] [13, N0] :=
  LaidIn.of_run [13, N0] 8 (by kernel_rfl) (by kernel_rfl) (by kernel_rfl) (by kernel_rfl)
theorem pairs_at (k : IntKind) : ∀ (rows : List (Nat × Nat)) (i : Nat) (x : Nat × Nat), rows[i]? = some x →
    ((rows.flatMap fun x => [Value.int k (x.1 : Int), Value.int k (x.2 : Int)]).drop (i * 2)).take 2 = [Value.int k (x.1 : Int), Value.int k (x.2 : Int)]
  | [], i, x, h => by simp at h
  | y :: rows, 0, x, h => by
    simp at h
    subst h
    rfl
  | y :: rows, i + 1, x, h => by
    have ih := pairs_at k rows i x (by simpa using h)
    rw [List.flatMap_cons, show (i + 1) * 2 = i * 2 + 2 by omega]
    exact ih
theorem pairs_len (k : IntKind) (rows : List (Nat × Nat)) : (rows.flatMap fun x => [Value.int k (x.1 : Int), Value.int k (x.2 : Int)]).length = rows.length * 2 := by
  induction rows with
  | nil => rfl
  | cons y rows ih =>
    rw [List.flatMap_cons, List.length_append, ih, List.length_cons]
    simp only [List.length_cons, List.length_nil]
    omega

theorem laidIn_pairs {P : Program} {w : World} {name : String} {g : Nat} {t e t0 : TypeId} {k : IntKind} {f0 f1 : Field} (rows : List (Nat × Nat))
    (hn : P.globalNamed name = some g) (hy : (P.globals[g]?).map (·.type) = some t) (ht : P.underlying t = some (.array rows.length e)) (he : P.underlying e = some (.struct #[f0, f1]))
    (e0 : f0.type = t0) (e1 : f1.type = t0) (o0 : f0.offset = 0) (o1 : f1.offset = 1) (hk : P.underlying t0 = some (.int k)) (hc0 : P.cellsOf t0 = 1) (hc : P.cellsOf e = 2) (hct : P.cellsOf t = rows.length * 2)
    (hvar : w.heap[g]? = some (.cells (rows.flatMap fun x => [Value.int k (x.1 : Int), Value.int k (x.2 : Int)]).toArray t (0, 0)))
    (hwf : (rows.all fun x => (Lit.int k (x.1 : Int)).wf && (Lit.int k (x.2 : Int)).wf) = true) :
    LaidIn P w [(name, .agg (rows.map fun x => .agg [.lit (.int k x.1), .lit (.int k x.2)]))] [g] := by
  have helem : ∀ i ∈ List.range rows.length, DataW.trod (fun _ => ()) P w 0 (fun _ => true) false 2 e (((rows.flatMap fun x => [Value.int k (x.1 : Int), Value.int k (x.2 : Int)]).drop (i * 2)).take 2) =
      some ((fun i => ((.agg [.lit (.int k ((rows.getD i (0, 0)).1 : Nat)), .lit (.int k ((rows.getD i (0, 0)).2 : Nat))] : DataW Unit), ([] : List MemPlace))) i) := by
    intro i hi
    have hi' := List.mem_range.1 hi
    rw [pairs_at k rows i rows[i] (List.getElem?_eq_getElem hi')]
    have hg : rows.getD i (0, 0) = rows[i] := by simp [List.getD, List.getElem?_eq_getElem hi']
    simp only [hg]
    have hw := List.all_eq_true.1 hwf rows[i] (List.getElem_mem hi')
    simp only [Bool.and_eq_true] at hw
    obtain ⟨hw1, hw2⟩ := hw
    simp [DataW.trod, he, hc, e0, e1, o0, o1, hc0, hk, hw1, hw2]
  have hdata : ((List.range rows.length).map fun i => (.agg [.lit (.int k ((rows.getD i (0, 0)).1 : Nat)), .lit (.int k ((rows.getD i (0, 0)).2 : Nat))] : DataW Unit)) = rows.map fun x => .agg [.lit (.int k x.1), .lit (.int k x.2)] := by
    apply List.ext_getElem (by simp)
    intro i h1 h2
    simp at h1
    simp [List.getD, List.getElem?_eq_getElem h1]
  have hread : DataW.trod (fun _ => ()) P w 0 (fun _ => true) false (2 + 1) t ((rows.flatMap fun x => [Value.int k (x.1 : Int), Value.int k (x.2 : Int)]).toArray).toList = some (.agg (rows.map fun x => .agg [.lit (.int k x.1), .lit (.int k x.2)]), []) := by
    unfold DataW.trod
    simp only [ht, hc, hct]
    rw [if_pos (pairs_len k rows), mapM_someR _ _ _ helem, ← hdata]
    simp [Function.comp_def]
  have hv : w.var? P name = some (rows.flatMap fun x => [Value.int k (x.1 : Int), Value.int k (x.2 : Int)]).toArray := by simp [World.var?, hn, hvar]
  refine LaidIn.one _ hn hy hv hread ?_ ?_ ?_
  · rw [List.append_nil]
    exact rowP_nodup _ _
  · rw [List.append_nil]
    intro b off hp
    obtain ⟨i, hi, e'⟩ := MemPlace.mem_row.1 hp
    cases e'
    refine ⟨⟨_, _, hvar⟩, fun u v hc' => ?_⟩
    rw [cell_of_heap hvar] at hc'
    have hm := Array.mem_of_getElem? hc'
    simp at hm
  · rw [List.append_nil]
    intro x hx
    obtain ⟨i, _, rfl⟩ := MemPlace.mem_row.1 hx
    simp [MemPlace.block]

set_option maxRecDepth 1000000 in
theorem pieceP (os : Os) (args : Array Value) : LaidIn Tryz.prog (LW os args) [("internal/strconv.pow10Tab", Rows.laid_internal_strconv_pow10Tab)] [12] :=
  laidIn_pairs (t := 154) (e := 153) (t0 := 80) Go.Pinned.pow10Rows (by kernel_rfl) (by kernel_rfl) (by kernel_rfl) Tryz.underlying153 rfl rfl rfl rfl Tryz.underlying80 (by kernel_rfl) (by kernel_rfl) (by kernel_rfl) (by kernel_rfl) (by kernel_rfl)

theorem graphic_eq : Go.Pinned.isGraphic = Lib.sliceData .u16 Go.Pinned.isGraphicZ := by kernel_rfl
theorem laid7 : (Rows.laid_strconv_isGraphic : DataW Unit) = Lib.sliceData .u16 Go.Pinned.isGraphicZ := graphic_eq
theorem laid4 : (Rows.laid_strconv_isNotPrint16 : DataW Unit) = Lib.sliceData .u16 Lib.goPrintTabs.n16 := Go.Pinned.isNotPrint16_eq
theorem laid6 : (Rows.laid_strconv_isNotPrint32 : DataW Unit) = Lib.sliceData .u16 Lib.goPrintTabs.n32 := Go.Pinned.isNotPrint32_eq
theorem laid3 : (Rows.laid_strconv_isPrint16 : DataW Unit) = Lib.sliceData .u16 Lib.goPrintTabs.p16 := Go.Pinned.isPrint16_eq
theorem laid5 : (Rows.laid_strconv_isPrint32 : DataW Unit) = Lib.sliceData .u32 Lib.goPrintTabs.p32 := Go.Pinned.isPrint32_eq
theorem laid1 : (Rows.laid_unicode_utf8_first : DataW Unit) = Lib.firstData := Go.Pinned.utf8First_eq

/-- THE PIECES JOINED: the witness world meets the row's list. -/
theorem laid_met (os : Os) (args : Array Value) : laidMet Tryz.prog Rows.fnQuoteRow.laid (LW os args) := by
  have p3 := piece3 os args
  have p4 := piece4 os args
  have p5 := piece5 os args
  have p6 := piece6 os args
  have p7 := piece7 os args
  have p1 := pieceF os args
  rw [← laid3] at p3
  rw [← laid4] at p4
  rw [← laid5] at p5
  rw [← laid6] at p6
  rw [← laid7] at p7
  rw [← laid1] at p1
  exact (((((((((pieceA os args).append (pieceC os args) (by kernel_rfl)).append (pieceP os args) (by kernel_rfl)).append p7 (by kernel_rfl)).append p4 (by kernel_rfl)).append p6 (by kernel_rfl)).append p3 (by kernel_rfl)).append p5 (by kernel_rfl)).append p1 (by kernel_rfl)).met

theorem witness_row (os : Os) {H : Type} (enc : TypeId × Value → H) :
    (OpenSpec.ofChange Rows.fnQuoteSpec).preRow enc Tryz.prog Tryz.f3 Rows.fnQuoteRow.domain false Rows.fnQuoteRow.laid (LW os #[.slice none 0 0]) #[.slice none 0 0] := by
  have hw : (DataW.whole enc Tryz.prog (LW os #[.slice none 0 0]) Tryz.f3.params.toList Rows.fnQuoteSpec.vars false #[Value.slice none 0 0].toList 8).map (fun x => (x.1, x.2.1)) =
      some ([.nil], []) := by kernel_rfl
  obtain ⟨⟨x1, x2, x3⟩, hx, hx1⟩ := Option.map_eq_some_iff.1 hw
  simp only [Prod.mk.injEq] at hx1
  obtain ⟨rfl, rfl⟩ := hx1
  exact OpenSpec.preRow_of_cond 8 hx (by kernel_rfl) (fun k hk => by cases hk) (by kernel_rfl) (laid_met os _)

theorem flat_pairs (u : TypeId) (n : Nat) : (List.replicate n [u, u]).flatten = List.replicate (n * 2) u := by
  induction n with
  | zero => rfl
  | succ n ih => rw [List.replicate_succ, List.flatten_cons, ih, show (n + 1) * 2 = n * 2 + 1 + 1 by omega]; rfl

theorem row_of_ints {P : Program} {w : World} {t u : TypeId} {k : IntKind} {m : Nat} {cs : Array Value} (ht : P.cellTypes P.depth t = some (List.replicate m u)) (hu : P.underlying u = some (.int k)) (hs : cs.size = m)
    (hv : ∀ v ∈ cs, ∃ n, v = .int k n ∧ (Lit.int k n).wf = true) : Row.okRefB P w t cs = true := by
  unfold Row.okRefB
  rw [ht]
  simp only [List.length_replicate, hs, Nat.mod_self, beq_self_eq_true, Bool.true_and, List.all_eq_true, List.mem_range]
  intro i hi
  rw [Nat.mod_eq_of_lt hi, List.getElem?_replicate, if_pos hi, Array.getElem?_eq_getElem (by omega)]
  obtain ⟨n, hn, hw⟩ := hv (cs[i]'(by omega)) (Array.getElem_mem _)
  simp only [hn]
  unfold Cell.okRefB Cell.okB
  rw [hu]
  simp only [Lit.wf, Bool.and_eq_true, decide_eq_true_eq] at hw
  simp [hw.1, hw.2]
theorem types154 : Tryz.prog.cellTypes Tryz.prog.depth 154 = some ((List.replicate 696 [80, 80]).flatten) := by kernel_rfl
theorem zero12 : (((begin Tryz.prog (fun _ _ => 0) default).world.heap[12]?).bind Obj.row?).map (fun x => (x.1.size, x.2)) = some (1392, 154) := by kernel_rfl
theorem heap12 (os : Os) : ((laidWorld os).forCall (fun _ _ => 0) ⟨#[], #[.slice none 0 0], []⟩).heap[12]? = some (.cells powCells 154 (0, 0)) := by kernel_rfl
theorem powWf : (Go.Pinned.pow10Rows.all fun x => (Lit.int .u64 (x.1 : Int)).wf && (Lit.int .u64 (x.2 : Int)).wf) = true := by kernel_rfl
theorem powSize : powCells.size = 1392 := by kernel_rfl
theorem powInts : ∀ v ∈ powCells, ∃ n, v = Value.int .u64 n ∧ (Lit.int .u64 n).wf = true := by
  intro v hv
  unfold powCells at hv
  rw [List.mem_toArray] at hv
  obtain ⟨x, hx, hv⟩ := List.mem_flatMap.1 hv
  have h := List.all_eq_true.1 powWf x hx
  simp only [Bool.and_eq_true] at h
  simp only [List.mem_cons, List.mem_nil_iff, or_false] at hv
  rcases hv with rfl | rfl
  · exact ⟨_, rfl, h.1⟩
  · exact ⟨_, rfl, h.2⟩
theorem globals14 : Tryz.prog.globals.size = 14 := by kernel_rfl

/-- One variable of the check 'variablesRefB', by its number. -/
noncomputable def varFits (P : Program) (w : World) (g : Nat) : Bool :=
  match ((begin P (fun _ _ => 0) default).world.heap[g]?).bind Obj.row? with
  | none => true
  | some (zero, t) =>
    match w.heap[g]? with
    | some (.cells cs t' frozen) => decide (t' = t) && decide (frozen = (0, 0)) && cs.size == zero.size && (!P.buildable t || Row.okRefB P w t cs)
    | _ => false
theorem refB_of {P : Program} {w : World} (h : ∀ g, g < P.globals.size → varFits P w g = true) : w.variablesRefB P = true := by
  unfold World.variablesRefB
  simp only [List.all_eq_true, List.mem_range]
  intro g hg
  have h1 := h g hg
  unfold varFits at h1
  exact h1
noncomputable abbrev LS (os : Os) : World := (laidWorld os).forCall (fun _ _ => 0) ⟨#[], #[.slice none 0 0], []⟩
theorem varFits12 (os : Os) : varFits Tryz.prog (LS os) 12 = true := by
  unfold varFits
  have hz := zero12
  cases h : ((begin Tryz.prog (fun _ _ => 0) default).world.heap[12]?).bind Obj.row? with
  | none => rfl
  | some x =>
    obtain ⟨zero, t⟩ := x
    rw [h] at hz
    simp only [Option.map_some, Option.some.injEq, Prod.mk.injEq] at hz
    obtain ⟨hz1, rfl⟩ := hz
    have hh : (LS os).heap[12]? = some (.cells powCells 154 (0, 0)) := heap12 os
    simp only [hh, hz1, powSize]
    have hr : Row.okRefB Tryz.prog (LS os) 154 powCells = true :=
      row_of_ints (m := 1392) (types154.trans (by rw [flat_pairs])) Tryz.underlying80 powSize powInts
    simp [hr]
theorem allFit (os : Os) : ∀ g, g < 14 → varFits Tryz.prog (LS os) g = true
  | 0, _ => by kernel_rfl
  | 1, _ => by kernel_rfl
  | 2, _ => by kernel_rfl
  | 3, _ => by kernel_rfl
  | 4, _ => by kernel_rfl
  | 5, _ => by kernel_rfl
  | 6, _ => by kernel_rfl
  | 7, _ => by kernel_rfl
  | 8, _ => by kernel_rfl
  | 9, _ => by kernel_rfl
  | 10, _ => by kernel_rfl
  | 11, _ => by kernel_rfl
  | 12, _ => varFits12 os
  | 13, _ => by kernel_rfl
  | n + 14, h => absurd h (by omega)
theorem variablesFit (os : Os) : (LS os).variablesRefB Tryz.prog = true :=
  refB_of fun g hg => allFit os g (by rw [globals14] at hg; exact hg)
end Go.Proofs.YtcogodapgibceaaGreatDoor
