/-
  The contract of the statement's function, for every input that the form reads: it returns true, and each argument reads behind the call as it read before.
-/
import Derived.Test.YtcogodapgibceaaGreatDoorOpen
import Derived.Test.YtcogodapgibceaaGreatDoorRows
import Derived.Lib.LaidTab
import Derived.Lib.LaidPrint
import Derived.PinnedBridge
import Derived.WideKeyArgs
import Derived.ProofKit
namespace Go.Proofs.YtcogodapgibceaaGreatDoor
open Go.RowKit Go.WideShapes Go.ChangeShapes Go.Lib

section
variable {H : Type} {enc : TypeId × Value → H} {P : Program}
theorem post_of_below {f : Func} {s : ChangeSpec} {apart fresh handsOn again : Bool} {W W' : World} {args : Array Value} {v : Value} {ds gs : List (DataW H)} {before pa pv : List MemPlace}
    (hW : DataW.Whole enc P f.params.toList s.vars apart W args.toList ds gs before)
    (hres : ∀ (b : Nat) (sp : Nat → Bool) (hd : Bool), DataW.TrodAll enc P W' b sp hd f.resultTypes.toList (v.resultList f.resultTypes.size) (s.fn H (ds ++ gs)).results [])
    (hargs : ∀ sp : Nat → Bool, (∀ p ∈ before, sp p.block = true) → DataW.TrodAll enc P W' 0 sp true f.params.toList args.toList (s.fn H (ds ++ gs)).args pa)
    (hvars : ∀ sp : Nat → Bool, (∀ p ∈ before, sp p.block = true) → DataW.TrodVars enc P W' sp s.vars (s.fn H (ds ++ gs)).vars pv)
    (hps : before = pa ++ pv) (hb : Below W.heap.size W W')
    (hok : ∀ (j : Nat) (t : TypeId) (r : Value), f.resultTypes[j]? = some t → (v.resultList f.resultTypes.size)[j]? = some r → Value.okWide P W' .any 0 t r) :
    s.post enc P f apart fresh handsOn again W args v W' := by
  have hlt : ∀ p ∈ before, p.block < W.heap.size := fun p hp => hW.lt p hp
  have hold : ∀ p ∈ before, (fun b => decide (b < W.heap.size)) p.block = true := fun p hp => by simpa using hlt p hp
  refine ⟨ds, gs, before, [], pa, pv, hW, hres _ _ _, hargs _ hold, hvars _ hold, World.keptBut_mono (fun p hp => ⟨hp, ?_⟩) (hb.frame (· ∈ before)), fun _ => ?_⟩
  · rw [hps, List.mem_append] at hp
    exact Or.inr hp
  · obtain ⟨_, _, _, _, _, hz, hn⟩ := hW
    refine ⟨hok, _, _, ([] ++ pa) ++ pv, ⟨[] ++ pa, pv, trodAll_append (hargs _ (fun _ _ => rfl)) (hres _ _ _), hvars _ (fun _ _ => rfl), rfl, ?_, ?_⟩, ?_⟩
    · intro b off hp
      have hin : MemPlace.cell b off ∈ before := by rw [hps]; simpa using hp
      rw [hb.frozen (hlt _ hin)]
      exact hz b off hin
    · intro ha
      have := hn ha
      rw [hps] at this
      simpa using this
    · intro p hp _
      rw [hps]
      simpa using hp
end

theorem own : ownKnob Tryz.prog.godebug = none := by kernel_rfl
theorem laidOut : laidOutB Tryz.prog = true := by kernel_rfl
theorem readable22 : Tryz.prog.readableRec 22 = true := by kernel_rfl
theorem row22 : 22 < Tryz.prog.types.size := of_decide_eq_true (by kernel_rfl)

/-- An array of integers that reads as the table is the table. -/
theorem tabIs_of_reads {P : Program} {W : World} {name : String} {k : IntKind} {zs : List Int} {g : Nat} {t e : TypeId} {n : Nat}
    (hg : P.globalNamed name = some g) (hty : (P.globals[g]?).map (·.type) = some t) (ht : P.underlying t = some (.array n e)) (he : P.underlying e = some (.int k)) (hce : P.cellsOf e = 1) (hct : P.cellsOf t = n)
    (h : VarReads P W name (tabData k zs)) : TabIs P W name k zs := by
  obtain ⟨g', t', cs, fuel, p, hg', ht', hvar, hd⟩ := h
  obtain rfl := Option.some.inj (hg.symm.trans hg')
  obtain rfl := Option.some.inj (hty.symm.trans ht')
  unfold TabIs
  rw [hvar, ← cells_of_tab ht he hce hct hd]

theorem laid_of {W : World} (h : laidMetH Tryz.prog Rows.fnQuoteRow.laid W) : laidMet Tryz.prog Rows.fnQuoteRow.laid W := h
theorem pow10_eq : (Rows.laid_internal_strconv_uint64pow10 : DataW Unit) = tabData .u64 pow10Tab := by kernel_rfl
theorem accept_eq : (Rows.laid_unicode_utf8_acceptRanges : DataW Unit) = acceptData := by kernel_rfl

/-- WHAT THE ROW's LIST GIVES: the tables that the calls read. -/
theorem tabs_of {W : World} (h : laidMet Tryz.prog Rows.fnQuoteRow.laid W) : Tabs W := by
  have r3 : VarReads Tryz.prog W "internal/strconv.uint64pow10" Rows.laid_internal_strconv_uint64pow10 := laidMet.reads h (.tail _ (.tail _ (.tail _ (.head _))))
  have r4 : VarReads Tryz.prog W "unicode/utf8.acceptRanges" Rows.laid_unicode_utf8_acceptRanges := laidMet.reads h (.tail _ (.tail _ (.tail _ (.tail _ (.head _)))))
  have r8 : VarReads Tryz.prog W "strconv.isNotPrint16" Rows.laid_strconv_isNotPrint16 := laidMet.reads h (.tail _ (.tail _ (.tail _ (.tail _ (.tail _ (.tail _ (.tail _ (.tail _ (.head _)))))))))
  have r9 : VarReads Tryz.prog W "strconv.isNotPrint32" Rows.laid_strconv_isNotPrint32 := laidMet.reads h (.tail _ (.tail _ (.tail _ (.tail _ (.tail _ (.tail _ (.tail _ (.tail _ (.tail _ (.head _))))))))))
  have r10 : VarReads Tryz.prog W "strconv.isPrint16" Rows.laid_strconv_isPrint16 := laidMet.reads h (.tail _ (.tail _ (.tail _ (.tail _ (.tail _ (.tail _ (.tail _ (.tail _ (.tail _ (.tail _ (.head _)))))))))))
  have r11 : VarReads Tryz.prog W "strconv.isPrint32" Rows.laid_strconv_isPrint32 := laidMet.reads h (.tail _ (.tail _ (.tail _ (.tail _ (.tail _ (.tail _ (.tail _ (.tail _ (.tail _ (.tail _ (.tail _ (.head _))))))))))))
  have r12 : VarReads Tryz.prog W "unicode/utf8.first" Rows.laid_unicode_utf8_first := laidMet.reads h (.tail _ (.tail _ (.tail _ (.tail _ (.tail _ (.tail _ (.tail _ (.tail _ (.tail _ (.tail _ (.tail _ (.tail _ (.head _)))))))))))))
  rw [pow10_eq] at r3
  rw [accept_eq] at r4
  unfold Rows.laid_strconv_isNotPrint16 at r8
  unfold Rows.laid_strconv_isNotPrint32 at r9
  unfold Rows.laid_strconv_isPrint16 at r10
  unfold Rows.laid_strconv_isPrint32 at r11
  unfold Rows.laid_unicode_utf8_first at r12
  rw [Pinned.isNotPrint16_eq] at r8
  rw [Pinned.isNotPrint32_eq] at r9
  rw [Pinned.isPrint16_eq] at r10
  rw [Pinned.isPrint32_eq] at r11
  rw [Pinned.utf8First_eq] at r12
  refine ⟨tabIs_of_reads (g := 8) (t := 103) (e := 80) (n := 20) (by kernel_rfl) (by kernel_rfl) Tryz.underlying103 Tryz.underlying80 (by kernel_rfl) (by kernel_rfl) r3, ?_, ?_⟩
  · exact printTabs_of_reads (ρ := Tryz.lays177_ren) { Tryz.lays177 with } ⟨by kernel_rfl, by kernel_rfl, by kernel_rfl, by kernel_rfl, by kernel_rfl, by kernel_rfl, by kernel_rfl, by kernel_rfl, by kernel_rfl, by kernel_rfl⟩ r10 r8 r11 r9
  · exact utf8Tabs_of_reads (ρ := Tryz.lays177_ren) { Tryz.lays177 with } ⟨by kernel_rfl, by kernel_rfl, by kernel_rfl, by kernel_rfl, by kernel_rfl, by kernel_rfl, by kernel_rfl⟩ r12 r4

set_option maxRecDepth 100000 in
/-- THE CONTRACT, FOR EVERY ARGUMENT AND EVERY WORLD THAT HOLDS THE TABLES. -/
theorem contract (H : Type) (enc : TypeId × Value → H) (W : World) (base : Nat) (args : Array Value) (ds gs : List (DataW H)) (before : List MemPlace)
    (hval : ∀ (j : Nat) t v, Tryz.f3.params[j]? = some t → args[j]? = some v → Value.okWide Tryz.prog W .any base t v)
    (hW : DataW.Whole enc Tryz.prog Tryz.f3.params.toList Rows.fnQuoteSpec.vars false W args.toList ds gs before) (hL : laidMetH Tryz.prog Rows.fnQuoteRow.laid W) :
    Calls Tryz.prog 3 args W fun e W' => ∃ v, e = .returned v ∧ Rows.fnQuoteSpec.post enc Tryz.prog Tryz.f3 false true false false W args v W' := by
  have hT := tabs_of (laid_of hL)
  have hW' := hW
  obtain ⟨p, q, hA0, hV, rfl, hfz, hnd⟩ := hW
  have hA : DataW.TrodAll enc Tryz.prog W 0 (fun _ => true) true Tryz.f3.params.toList args.toList ds p := hA0
  rw [Tryz.params3] at hA hval
  obtain ⟨v0, vs0, d0, ds0, p0, q0, hargs, rfl, rfl, h0, r0⟩ := trodAll_cons hA
  obtain ⟨rfl, rfl, rfl⟩ := trodAll_nil r0
  obtain rfl : args = #[v0] := by cases args; simp_all
  obtain ⟨rfl, rfl⟩ := trodVars_none hV
  obtain ⟨A, n, c, rfl⟩ := okWide_slice Tryz.underlying22 (hval 0 22 v0 rfl rfl)
  obtain ⟨fuel, ht⟩ := h0
  obtain ⟨hn, vs, rfl, hr, hi, hl⟩ := open_list ht
  have walk : Calls Tryz.prog 3 #[.slice A vs.length c] W (LawPost W) := by
    by_cases hs : vs.length ≤ 2147483647
    · exact law_small vs W.heap.size A c W hr (Nat.le_refl _) hs hi hl hT
    · exact law_great vs.length A c W hn (by omega)
  clear hA0
  refine walk.mono fun e W' ⟨he, hb⟩ => ?_
  subst he
  have hlt : ∀ x ∈ p0, x.block < W.heap.size := fun x hx => hW'.lt x (by simp; exact hx)
  refine ⟨_, rfl, post_of_below (pa := p0 ++ []) (pv := []) hW' (fun _ _ _ => ?_) (fun sp hsp => ?_) (fun _ _ => rfl) (by simp) hb (ok_one (by kernel_rfl) rfl (okWide_bool_mk Tryz.underlying4 _))⟩
  · exact trodAll_mk1 (shut_bool Tryz.underlying4 true)
  · exact trodAll_cons_mk (WideElems.Trod_stays laidOut readable22 row22 ⟨fuel, ht⟩ (fun x hx => hb.same (hlt x hx)) (fun x hx => hsp x (by simp; exact hx))) trodAll_mk0
end Go.Proofs.YtcogodapgibceaaGreatDoor
