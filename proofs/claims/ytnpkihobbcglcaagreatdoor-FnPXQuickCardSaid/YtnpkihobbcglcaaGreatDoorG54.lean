/- FnPXQuick: a QR code that is written for a text says this text in any picture: for every text, kind, level, scale, margins, light and around the law returns true, and its arguments read as before; its tied card. Conditions: none beyond the row's own (the listed library tables read as the card ties them). -/
import Derived.Test.YtnpkihobbcglcaaGreatDoorCards
import Derived.Test.YtnpkihobbcglcaaGreatDoorTie
import Derived.ProofKit
import Derived.LaidMore
import Derived.OpenShut
import Derived.SevenTiedAt
import Derived.Laws.IdiomArrays
import Derived.Deep.Onto
import Derived.Test.YtnpkihobbcglcaaGreatDoorG53
/- The closed facts of FnPXQuick's row, each by the kernel; no condition. -/
open Go
namespace Go.Proofs.YtnpkihobbcglcaaGreatDoor
open Go.ChangeShapes Go.WideShapes Go.ChangeAt Go.RowKit
abbrev pxC : OpenClaim := Rows.fnPXQuickRow
abbrev pxS : ChangeSpec := Rows.fnPXQuickSpec
set_option maxRecDepth 100000 in
theorem px_k1 : pxC.wf (OpenSpec.ofChange pxS) = true := by kernel_rfl
set_option maxRecDepth 100000 in
theorem px_k2 : laidOutB Tryz.prog = true := by kernel_rfl
set_option maxRecDepth 100000 in
theorem px_k3 : mapsRowed Tryz.prog = true := by kernel_rfl
set_option maxRecDepth 100000 in
theorem px_k4 : Tryz.f3.params.all (Tryz.prog.readableRec ·) = true := by kernel_rfl
set_option maxRecDepth 100000 in
theorem px_k5 : namedTie Tryz.prog pxC.named pxS.vars = true := by kernel_rfl
set_option maxRecDepth 100000 in
theorem px_k6 : (pxC.stops == []) = true := by kernel_rfl
set_option maxRecDepth 100000 in
theorem px_k7 : (Tryz.prog.stops == []) = true := by kernel_rfl
set_option maxRecDepth 100000 in
theorem px_k8 : (pxC.knobs == []) = true := by kernel_rfl
set_option maxRecDepth 100000 in
theorem px_k9 : (Tryz.prog.stopKnobs == []) = true := by kernel_rfl
set_option maxRecDepth 100000 in
theorem px_k10 : (pxC.inPlace == Tryz.prog.inPlace 3) = true := by kernel_rfl
set_option maxRecDepth 100000 in
theorem px_k11 : (pxC.unfollowed == Tryz.prog.unfollowed 3) = true := by kernel_rfl
set_option maxRecDepth 100000 in
theorem px_k12 : (pxC.recurses == Tryz.prog.recurses 3) = true := by kernel_rfl
set_option maxRecDepth 100000 in
theorem px_k13 : (pxC.named == Tryz.prog.varsNamed 3) = true := by kernel_rfl
set_option maxRecDepth 100000 in
theorem px_k14 : (pxC.maps == (Tryz.f3.params.toList ++ pxS.plain.varTypes Tryz.prog).any (Tryz.prog.mapsRec ·)) = true := by kernel_rfl
set_option maxRecDepth 100000 in
theorem px_k15 : (pxC.ifaces == (Tryz.f3.params.toList ++ pxS.plain.varTypes Tryz.prog).any (Tryz.prog.ifacesRec ·)) = true := by kernel_rfl
set_option maxRecDepth 100000 in
theorem px_k16 : (pxC.mapsOut == Tryz.prog.mapsAmong Tryz.f3.resultTypes.toList) = true := by kernel_rfl
set_option maxRecDepth 100000 in
theorem px_k17 : (pxC.loops == (Tryz.f3.params.toList ++ pxS.plain.varTypes Tryz.prog).any (Tryz.prog.loopsFrom ·)) = true := by kernel_rfl
set_option maxRecDepth 100000 in
theorem px_k17b : (pxC.wideKeys == (Tryz.f3.params.toList ++ pxS.plain.varTypes Tryz.prog ++ Tryz.f3.resultTypes.toList).any (Tryz.prog.wideKeysFrom ·)) = true := by kernel_rfl
set_option maxRecDepth 100000 in
theorem px_k18 : pxS.vars.all (Tryz.prog.varReadable ·) = true := by kernel_rfl
set_option maxRecDepth 100000 in
theorem px_k19 : Tryz.f3.resultTypes.all (fun t => Tryz.prog.readableRec t && decide (t < Tryz.prog.types.size)) = true := by kernel_rfl
set_option maxRecDepth 100000 in
theorem px_k20 : (pxC.ifacesOut == Tryz.f3.resultTypes.toList.any (Tryz.prog.ifacesRec ·)) = true := by kernel_rfl
set_option maxRecDepth 100000 in
theorem px_k21 : (pxC.loopsOut == Tryz.f3.resultTypes.toList.any (Tryz.prog.loopsFrom ·)) = true := by kernel_rfl
set_option maxRecDepth 100000 in
theorem px_k22 : (pxC.plainKeys == Tryz.prog.plainKeys) = true := by kernel_rfl
set_option maxRecDepth 100000 in
theorem px_k23 : pxC.shortTexts.isNone = true := by kernel_rfl
set_option maxRecDepth 100000 in
theorem px_k23b : Tryz.prog.stopsHeard = true := by kernel_rfl
set_option maxRecDepth 100000 in
theorem px_k24 : Tryz.prog.mayEnter = true := by kernel_rfl
set_option maxRecDepth 100000 in
theorem px_k24b : (pxC.lifted == Tryz.prog.liftsFinal) = true := by kernel_rfl
set_option maxRecDepth 100000 in
theorem px_k24c : (Tryz.prog.make == some pxC.make) = true := by kernel_rfl
set_option maxRecDepth 100000 in
theorem px_k25 : (pxC.kinds == (if pxC.domain.isEmpty then [] else Tryz.f3.params.toList.map fun t => match Tryz.prog.underlying t with | some (.int k) => some k | _ => none)) = true := by kernel_rfl
set_option maxRecDepth 100000 in
theorem px_k26 : (pxC.pinned == pxC.pinnedBy) = true := by kernel_rfl
set_option maxRecDepth 100000 in
theorem px_k27 : (pxC.veiled == (Tryz.f3.params.toList ++ pxS.plain.varTypes Tryz.prog ++ Tryz.f3.resultTypes.toList).any (Tryz.prog.veiledRec ·)) = true := by kernel_rfl
set_option maxRecDepth 100000 in
theorem px_k28 : pxC.veiledFits Tryz.prog Tryz.f3.params.toList (Tryz.f3.params.toList ++ pxS.plain.varTypes Tryz.prog ++ Tryz.f3.resultTypes.toList) = true := by kernel_rfl
set_option maxRecDepth 100000 in
theorem pxFacts : joinedFacts Tryz.prog 3 Tryz.f3 pxS pxC = true := by
  simp only [joinedFacts, Bool.and_eq_true]
  exact ⟨⟨⟨⟨⟨⟨⟨⟨⟨⟨⟨⟨⟨⟨⟨⟨⟨⟨⟨⟨⟨⟨⟨⟨⟨⟨⟨⟨⟨⟨⟨px_k1, px_k2⟩, px_k3⟩, px_k4⟩, px_k5⟩, px_k6⟩, px_k7⟩, px_k8⟩, px_k9⟩, px_k10⟩, px_k11⟩, px_k12⟩, px_k13⟩, px_k14⟩, px_k15⟩, px_k16⟩, px_k17⟩, px_k17b⟩, px_k18⟩, px_k19⟩, px_k20⟩, px_k21⟩, px_k22⟩, px_k23⟩, px_k23b⟩, px_k24⟩, px_k24b⟩, px_k24c⟩, px_k25⟩, px_k26⟩, px_k27⟩, px_k28⟩
end Go.Proofs.YtnpkihobbcglcaaGreatDoor
/- FnPXQuick: for every text, kind, level, scale, four margins, light and around, in every world in which the row's listed variables read as listed, the law returns true, and its arguments read as they did; and the tied card of it. -/
open Go
namespace Go.Proofs.YtnpkihobbcglcaaGreatDoor
open Go.ChangeShapes Go.WideShapes Go.ChangeAt Go.RowKit

theorem pxOwn : ownKnob Tryz.prog.godebug = none := by kernel_rfl
theorem pxCells5 : Tryz.prog.cellsOf 5 = 1 := by kernel_rfl
theorem pxCells22 : Tryz.prog.cellsOf 22 = 4 := by kernel_rfl
theorem doorMet (os : Os) (args : Array Value) : laidMetH Tryz.prog Rows.fnPXQuickRow.laid ((World.doorLaid Tryz.prog 400 os).forCall (fun _ _ => 0) ⟨#[], args, []⟩).memory :=
  laidMetH_of_parts3 (fuel := 8) (laidMet_of_run' 8 (by kernel_rfl) (by kernel_rfl)) (by kernel_rfl) (by kernel_rfl)

theorem natU8 {n : Int} (h : (Lit.int .u8 n).wf = true) : ∃ k : Nat, k < 256 ∧ n = (k : Int) := by
  have := bounds_u8 h
  exact ⟨n.toNat, by omega, by omega⟩
theorem list4 {α : Type} (l : List α) (h : (⟨l⟩ : Array α).size = 4) : ∃ a b c d, l = [a, b, c, d] := by
  match l, h with
  | [a, b, c, d], _ => exact ⟨a, b, c, d, rfl⟩

set_option maxRecDepth 100000 in
/-- Four bytes as an array, opened. -/
theorem openArr {H : Type} {enc : TypeId × Value → H} {w : World} {base b0 : Nat} {sp : Nat → Bool} {held : Bool} {r : Reach} {v : Value} {d : DataW H} {ps : List MemPlace} (hval : Value.okWide Tryz.prog w r b0 22 v) (hd : DataW.Trod enc Tryz.prog w base sp held 22 v d ps) :
    ∃ a0 a1 a2 a3 : Nat, a0 < 256 ∧ a1 < 256 ∧ a2 < 256 ∧ a3 < 256 ∧ v = .agg #[.int .u8 a0, .int .u8 a1, .int .u8 a2, .int .u8 a3] ∧ d = .agg [.lit (.int .u8 a0), .lit (.int .u8 a1), .lit (.int .u8 a2), .lit (.int .u8 a3)] ∧ ps = [] := by
  obtain ⟨cs, rfl, hsz, _⟩ : ∃ cs, v = .agg cs ∧ cs.size = Tryz.prog.cellsOf 22 ∧ Row.okWide Tryz.prog w r b0 22 cs := by
    simpa [Value.okWide, Tryz.underlying22] using hval
  rw [pxCells22] at hsz
  obtain ⟨l⟩ := cs
  obtain ⟨c0, c1, c2, c3, rfl⟩ := list4 l hsz
  obtain ⟨fuel, hf⟩ := hd
  obtain ⟨y0, y1, y2, y3, m, hx, hy0, hy1, hy2, hy3⟩ := trod_array4 Tryz.underlying22 pxCells5 hf
  obtain ⟨x0, e0, rfl, w0⟩ := DataW.trod_int Tryz.underlying5 hy0
  obtain ⟨x1, e1, rfl, w1⟩ := DataW.trod_int Tryz.underlying5 hy1
  obtain ⟨x2, e2, rfl, w2⟩ := DataW.trod_int Tryz.underlying5 hy2
  obtain ⟨x3, e3, rfl, w3⟩ := DataW.trod_int Tryz.underlying5 hy3
  simp at e0 e1 e2 e3
  subst e0 e1 e2 e3
  simp only [Prod.mk.injEq] at hx
  obtain ⟨rfl, rfl⟩ := hx
  obtain ⟨a0, h0, rfl⟩ := natU8 w0
  obtain ⟨a1, h1, rfl⟩ := natU8 w1
  obtain ⟨a2, h2, rfl⟩ := natU8 w2
  obtain ⟨a3, h3, rfl⟩ := natU8 w3
  exact ⟨a0, a1, a2, a3, h0, h1, h2, h3, rfl, rfl, rfl⟩
theorem wfU8 {k : Nat} (h : k < 256) : (Lit.int .u8 (k : Int)).wf = true := by
  simp [Lit.wf, IntKind.min, IntKind.max, IntKind.signed, IntKind.bits]
  omega
theorem shutArr {H : Type} {enc : TypeId × Value → H} {w : World} {base : Nat} {sp : Nat → Bool} {held : Bool} {a0 a1 a2 a3 : Nat} (h0 : a0 < 256) (h1 : a1 < 256) (h2 : a2 < 256) (h3 : a3 < 256) :
    DataW.Trod enc Tryz.prog w base sp held 22 (.agg #[.int .u8 a0, .int .u8 a1, .int .u8 a2, .int .u8 a3]) (DataW.agg [.lit (.int .u8 a0), .lit (.int .u8 a1), .lit (.int .u8 a2), .lit (.int .u8 a3)]) [] := by
  have w0 := wfU8 h0
  have w1 := wfU8 h1
  have w2 := wfU8 h2
  have w3 := wfU8 h3
  exact ⟨2, by simp [DataW.trod, Value.cells, Tryz.underlying22, Tryz.underlying5, pxCells22, pxCells5, w0, w1, w2, w3, show List.range 4 = [0, 1, 2, 3] from rfl]⟩

set_option maxRecDepth 100000 in
theorem pxLifted (os : Os) (started : os.Started) (H : Type) (enc : TypeId × Value → H) :
    ReturnsInHanded {} Tryz.checked os 3 .any (fun w args => (Rows.fnPXQuickSpec.pre enc Tryz.prog Tryz.f3 [] false w args ∧ laidMetH Tryz.prog Rows.fnPXQuickRow.laid w) ∧ sizedMet enc Tryz.prog Tryz.f3 (OpenSpec.ofChange Rows.fnPXQuickSpec) false w args)
      (Rows.fnPXQuickSpec.post enc Tryz.prog Tryz.f3 false true false false) := by
  refine returnsInHanded_of_change_and (C := Tryz.checked) (X := fun w _ => laidMetH Tryz.prog Rows.fnPXQuickRow.laid w) (fun _ _ _ hh h => h.of_heap hh) pxOwn started (by kernel_rfl) Tryz.func3
    (ChangeSpec.witness_shaped (enc := enc) (C := Tryz.checked) (os := os) (X := fun w _ => laidMetH Tryz.prog Rows.fnPXQuickRow.laid w) false (World.doorLaid Tryz.prog 400 os) #[.string ⟨#[]⟩, .int .u8 0, .int .u8 0, .int .u8 0, .agg #[.int .u8 0, .int .u8 0, .int .u8 0, .int .u8 0], .int .u8 0, .int .u8 0] 8 rfl (World.shaped_of_RefB (by kernel_rfl) (by kernel_rfl)) (by kernel_rfl) (by kernel_rfl) (by kernel_rfl) (doorMet os _)) ?_
  intro W base args ds gs before hval0 hW _ _ _ _
  have hval : ∀ (j : Nat) t v, Tryz.f3.params[j]? = some t → args[j]? = some v → Value.okWide Tryz.prog W .any base t v := hval0
  have hW' := hW
  obtain ⟨p, q, hA0, hV, rfl, hfz, hnd⟩ := hW
  have hA : DataW.TrodAll enc Tryz.prog W 0 (fun _ => true) true Tryz.f3.params.toList args.toList ds p := hA0
  rw [Tryz.params3] at hA hval
  obtain ⟨v0, vs0, d0, ds0, p0, q0, ha0, rfl, rfl, g0, r0⟩ := trodAll_cons hA
  obtain ⟨v1, vs1, d1, ds1, p1, q1, rfl, rfl, rfl, g1, r1⟩ := trodAll_cons r0
  obtain ⟨v2, vs2, d2, ds2, p2, q2, rfl, rfl, rfl, g2, r2⟩ := trodAll_cons r1
  obtain ⟨v3, vs3, d3, ds3, p3, q3, rfl, rfl, rfl, g3, r3⟩ := trodAll_cons r2
  obtain ⟨v4, vs4, d4, ds4, p4, q4, rfl, rfl, rfl, g4, r4⟩ := trodAll_cons r3
  obtain ⟨v5, vs5, d5, ds5, p5, q5, rfl, rfl, rfl, g5, r5⟩ := trodAll_cons r4
  obtain ⟨v6, vs6, d6, ds6, p6, q6, rfl, rfl, rfl, g6, r6⟩ := trodAll_cons r5
  obtain ⟨rfl, rfl, rfl⟩ := trodAll_nil r6
  obtain rfl : args = #[v0, v1, v2, v3, v4, v5, v6] := Array.toList_inj.1 ha0
  obtain ⟨rfl, rfl⟩ := trodVars_none hV
  obtain ⟨t, rfl, rfl, rfl, ht⟩ := Go.ChangeMaps.open_string Tryz.underlying9 (hval 0 9 v0 rfl rfl) g0
  obtain ⟨n1, rfl, rfl, rfl, w1⟩ := open_int Tryz.underlying5 (hval 1 5 v1 rfl rfl) g1
  obtain ⟨n2, rfl, rfl, rfl, w2⟩ := open_int Tryz.underlying5 (hval 2 5 v2 rfl rfl) g2
  obtain ⟨n3, rfl, rfl, rfl, w3⟩ := open_int Tryz.underlying5 (hval 3 5 v3 rfl rfl) g3
  obtain ⟨a0, a1, a2, a3, h0, h1, h2, h3, rfl, rfl, rfl⟩ := openArr (hval 4 22 v4 rfl rfl) g4
  obtain ⟨n5, rfl, rfl, rfl, w5⟩ := open_int Tryz.underlying5 (hval 5 5 v5 rfl rfl) g5
  obtain ⟨n6, rfl, rfl, rfl, w6⟩ := open_int Tryz.underlying5 (hval 6 5 v6 rfl rfl) g6
  obtain ⟨kd, hkd, rfl⟩ := natU8 w1
  obtain ⟨lv, hlv, rfl⟩ := natU8 w2
  obtain ⟨sc, hsc, rfl⟩ := natU8 w3
  obtain ⟨L0, hL0, rfl⟩ := natU8 w5
  obtain ⟨L2, hL2, rfl⟩ := natU8 w6
  clear hA0 hval0 hA g0 g1 g2 g3 g4 g5 g6
  refine (fnPXQuick_c W t kd lv sc a0 a1 a2 a3 L0 L2 hkd hlv hsc h0 h1 h2 h3 hL0 hL2).mono fun e W' ⟨he, hm⟩ => ?_
  subst he
  refine ⟨_, rfl, _, _, _, [], [], [], hW', ?_, ?_, ?_, ?_, fun h => by cases h⟩
  · exact trodAll_cons_mk (shut_bool Tryz.underlying4 _) trodAll_mk0
  · exact trodAll_cons_mk (Go.ChangeMaps.shut_string Tryz.underlying9 ht) (trodAll_cons_mk (shut_int Tryz.underlying5 w1) (trodAll_cons_mk (shut_int Tryz.underlying5 w2) (trodAll_cons_mk (shut_int Tryz.underlying5 w3) (trodAll_cons_mk (shutArr h0 h1 h2 h3) (trodAll_cons_mk (shut_int Tryz.underlying5 w5) (trodAll_cons_mk (shut_int Tryz.underlying5 w6) trodAll_mk0))))))
  · rfl
  · exact World.keptBut.congr (World.keptBut_refl W _) hm.os hm.output (fun i hi => hm.block i hi (fun f => f))

theorem pxNamed : Tryz.pinned.checked.prog.funcNamed Rows.fnPXQuickRow.func = some 3 := by kernel_rfl
theorem pxInst : Tryz.f3.isInstance Tryz.pinned.checked.prog Rows.fnPXQuickRow.origin Rows.fnPXQuickRow.targs := of_decide_eq_true (by kernel_rfl)
theorem pxWrap : Tryz.f3.isWrapper Tryz.pinned.checked.prog Rows.fnPXQuickRow.wrapper Rows.fnPXQuickRow.mainSum := by unfold Func.isWrapper; first | (rw [if_pos (by decide +kernel)]; kernel_rfl) | (rw [if_neg (by decide +kernel)]; exact ⟨rfl, rfl⟩)
theorem fnPXQuick_said : Rows.FnPXQuickSaid :=
  OpenClaim.holds_of_wide 3 Tryz.f3 rfl rfl rfl rfl rfl rfl rfl ⟨rfl, rfl, rfl, rfl, rfl⟩ rfl rfl rfl rfl rfl pxNamed Tryz.func3 pxFacts pxInst pxWrap
    (fun os started H enc _ => pxLifted os started H enc)

theorem pxPlain (f : FuncId) (fn : Func) (hf : Tryz.pinned.checked.prog.funcNamed "given.example/pub-quietzone/laws.FnPXQuick" = some f) (hfn : Tryz.pinned.checked.prog.funcs[f]? = some fn) :
    true = Tryz.pinned.checked.prog.looks [] ∧ ∀ (j : Nat) t, fn.params[j]? = some t → Tryz.pinned.checked.prog.wantsStandIn t = false := by
  obtain rfl : f = 3 := Option.some.inj ((show Tryz.prog.funcNamed "given.example/pub-quietzone/laws.FnPXQuick" = some 3 by kernel_rfl).symm.trans hf) |>.symm
  obtain rfl : fn = Tryz.f3 := (Option.some.inj (Tryz.func3.symm.trans hfn)).symm
  refine ⟨by kernel_rfl, fun j t ht => ?_⟩
  rw [Tryz.params3] at ht
  have hm : t ∈ [9, 5, 5, 5, 22, 5, 5] := by simpa using Array.mem_of_getElem? ht
  have hall : ([9, 5, 5, 5, 22, 5, 5].all fun u => !Tryz.prog.wantsStandIn u) = true := by kernel_rfl
  exact (show Tryz.prog.wantsStandIn t = false by simpa using List.all_eq_true.1 hall t hm)

/-- The tied card. -/
theorem fnPXQuick_card : Rows.FnPXQuickCardSaid :=
  Claim7.holds_tied_plain_at .later [] _ _ _ _ fnPXQuick_said (fun _ h => by cases h) (by kernel_rfl) (fun _ h => by cases h) fnPXQuick_row_tie rfl ⟨rfl, rfl⟩ (by kernel_rfl) rfl pxPlain (by kernel_rfl)
end Go.Proofs.YtnpkihobbcglcaaGreatDoor
