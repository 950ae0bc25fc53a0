/- FnWrittenCardSaid and FnWrittenTwiceCardSaid, for every input: a schema that is read from a tree is written as a tree of its keywords alone; what was written is read and written as it is: part 7, the proof's texts, made small by a program. -/
import Derived.Test.YtlcfillobkdnmaaGreatDoorTb6
import Derived.Test.YtlcfillobkdnmaaGreatDoorCards
set_option linter.unusedVariables false
set_option linter.unusedSimpArgs false
namespace Go.Jw
open Go Go.RowKit Go.Proofs Go.ChangeShapes Go.WideShapes Go.ChangeAt Go.Proofs.YtlcfillobkdnmaaGreatDoor
set_option maxRecDepth 100000
theorem reads4 (os : Os) {H : Type} (enc : TypeId × Value → H) : ∃ places, DataW.whole enc Tryz.prog ((laidWorld os).forCall (fun _ _ => 0) ⟨#[], #[wArg, .bool false], []⟩).memory Tryz.f4.params.toList Rows.fnWrittenSpec.vars false #[wArg, .bool false].toList 8 = some ([.agg [.lit (.int .i64 0), .lit (.int .i64 0), .lit (.string []), .nil, .nil], .lit (.bool false)], [], places) :=
  ⟨[], by kernel_rfl⟩
theorem lifted4 (os : Os) (started : os.Started) (H : Type) (enc : TypeId × Value → H) (F : Stop.Interp) :
    ReturnsInHanded {} Tryz.checked os 4 .any ((OpenSpec.ofChange Rows.fnWrittenSpec).preRow enc Tryz.prog Tryz.f4 Rows.fnWrittenRow.domain false Rows.fnWrittenRow.laid) (((OpenSpec.ofChange Rows.fnWrittenSpec).at F).post enc Tryz.prog Tryz.f4 false true false false) := by
  obtain ⟨places, hx⟩ := reads4 os enc
  refine returnsInHanded_of_row (C := Tryz.checked) (s := (OpenSpec.ofChange Rows.fnWrittenSpec)) own started (by kernel_rfl) Tryz.func4
    (witness_row_atRef (enc := enc) (C := Tryz.checked) false (laidWorld os) #[wArg, .bool false] rfl (vars_ref os _) (by kernel_rfl) (by kernel_rfl)
      (OpenSpec.preRow_of_cond 8 hx (by kernel_rfl) (fun k hk => by cases hk) (by kernel_rfl) (laid_met os _))) ?_
  intro W base args ds gs before hval hW _ _ _ hL _ _
  exact contract4 H enc W base args ds gs before hval hW hL
theorem said4 : Rows.FnWrittenSaid :=
  OpenClaim.holds_of_cond 4 Tryz.f4 rfl rfl rfl rfl rfl rfl rfl ⟨rfl, rfl, rfl, rfl, rfl⟩ rfl rfl rfl rfl rfl (by kernel_rfl) Tryz.func4 jAll4
    (of_decide_eq_true (by kernel_rfl)) (by unfold Func.isWrapper; first | (rw [if_pos (by decide +kernel)]; kernel_rfl) | (rw [if_neg (by decide +kernel)]; exact ⟨rfl, rfl⟩))
    (fun os started H enc _ F => by rw [OpenClaim.pre_eq_preRow]; exact lifted4 os started H enc F)
theorem plain4 (f : FuncId) (fn : Func) (hf : Tryz.pinned.checked.prog.funcNamed "loop.example/pub-g01522/laws.FnWritten" = some f) (hfn : Tryz.pinned.checked.prog.funcs[f]? = some fn) :
    true = Tryz.pinned.checked.prog.looks [] ∧ ∀ (j : Nat) t, fn.params[j]? = some t → Tryz.pinned.checked.prog.wantsStandIn t = false := by
  obtain rfl : f = 4 := Option.some.inj ((show Tryz.prog.funcNamed "loop.example/pub-g01522/laws.FnWritten" = some 4 by kernel_rfl).symm.trans hf) |>.symm
  obtain rfl : fn = Tryz.f4 := (Option.some.inj (Tryz.func4.symm.trans hfn)).symm
  refine ⟨by kernel_rfl, fun j t ht => ?_⟩
  rw [Tryz.params4] at ht
  have hm : t ∈ #[25, 4] := Array.mem_of_getElem? ht
  simp only [List.mem_toArray, List.mem_cons, List.not_mem_nil, or_false] at hm
  rcases hm with rfl | rfl
  · exact (show Tryz.prog.wantsStandIn 25 = false by kernel_rfl)
  · exact (show Tryz.prog.wantsStandIn 4 = false by kernel_rfl)
theorem card4 : Rows.FnWrittenCardSaid :=
  Claim7.holds_tied_plain_at .later [] _ _ _ _ said4 (fun _ h => by cases h) jtext4 (fun _ h => by cases h) fnWritten_row_tie rfl ⟨rfl, rfl⟩ jmain rfl plain4 jgoes4
end Go.Jw
namespace Go.Proofs.YtlcfillobkdnmaaGreatDoor
/-- Whatever the input: the law FnWritten returns true, and what it reads, reads ags it did. -/
theorem fnWritten_holds : Rows.FnWrittenCardSaid := Go.Jw.card4
end Go.Proofs.YtlcfillobkdnmaaGreatDoor

namespace Go.Jw
open Go Go.RowKit Go.Proofs Go.ChangeShapes Go.WideShapes Go.ChangeAt Go.Proofs.YtlcfillobkdnmaaGreatDoor
set_option maxRecDepth 100000
theorem contract5 (H : Type) (enc : TypeId × Value → H) (W : World) (base : Nat) (args : Array Value) (ds gs : List (DataW H)) (before : List MemPlace)
    (hval : ∀ (j : Nat) t v, Tryz.f5.params[j]? = some t → args[j]? = some v → Value.okWide Tryz.prog W .any base t v)
    (hW : DataW.Whole enc Tryz.prog Tryz.f5.params.toList Rows.fnWrittenTwiceSpec.vars false W args.toList ds gs before) (hL : laidMetH Tryz.prog Rows.fnWrittenTwiceRow.laid W) :
    Calls Tryz.prog 5 args W fun e W' => ∃ v, e = .returned v ∧ Rows.fnWrittenTwiceSpec.post enc Tryz.prog Tryz.f5 false true false false W args v W' := by
  have hW' := hW
  obtain ⟨p, q, hA0, hV, rfl, hfz, hnd⟩ := hW
  have hA : DataW.TrodAll enc Tryz.prog W 0 (fun _ => true) true Tryz.f5.params.toList args.toList ds p := hA0
  rw [Tryz.params5] at hA hval
  obtain ⟨v0, d0, rfl, rfl, h0⟩ := trodAll_one hA
  obtain ⟨rfl, rfl⟩ := trodVars_none hV
  have hvo := hval 0 25 v0 rfl rfl
  unfold Value.okWide at hvo
  rw [Tryz.underlying25] at hvo
  obtain ⟨cs, rfl, _⟩ := hvo
  obtain ⟨fuel, hf⟩ := id h0
  obtain ⟨t, hv, _⟩ := val_of_trod fuel _ _ hf
  have hv' : ValP W (· < W.heap.size) t (.agg cs) := by simpa [Value.cells] using hv
  clear hA0
  simp only [List.append_nil] at hW'
  have hL' : laidMet Tryz.prog Rows.fnTextedUptoRow.laid W := by rw [← met_eq]; exact hL
  have htab := tab_of hL' (.tail _ (.tail _ (.tail _ (.tail _ (.tail _ (.tail _ (.tail _ (.tail _ (.head _)))))))))
  obtain ⟨fb, hft⟩ := ft_of hL' (.tail _ (.tail _ (.tail _ (.tail _ (.tail _ (.tail _ (.tail _ (.tail _ (.head _))))))))) (.tail _ (.tail _ (.tail _ (.tail _ (.head _))))) (.tail _ (.tail _ (.tail _ (.head _)))) (.tail _ (.tail _ (.tail _ (.tail _ (.tail _ (.tail _ (.head _)))))))
    (.tail _ (.tail _ (.tail _ (.tail _ (.tail _ (.tail _ (.tail _ (.tail _ (.tail _ (.tail _ (.tail _ (.tail _ (.head _)))))))))))))
  have hc := calls_of (W := W) (l5 fb t (.agg cs)) (by
    intro d hd
    rcases List.mem_cons.1 hd with rfl | hd
    · exact hv'
    rcases List.mem_cons.1 hd with rfl | hd
    · exact htab
    rcases List.mem_cons.1 hd with rfl | hd
    · exact hft
    · cases hd)
  refine hc.mono fun e W' ⟨he, hb⟩ => ?_
  subst he
  have hlt := hW'.lt
  exact ⟨_, rfl, post_of_below (pa := p) (pv := []) hW' (fun _ _ _ => trodAll_cons_mk (shut_bool Tryz.underlying4 _) trodAll_mk0)
    (fun sp hs => trodAll_mk1 (Go.WideElems.Trod_stays laidOut rd25 lt25 h0 (fun x hx => hb.same (hlt x hx)) (fun x hx => hs x hx))) (fun _ _ => rfl) (List.append_nil p).symm hb (ok_one (by kernel_rfl) rfl (okWide_bool_mk Tryz.underlying4 _))⟩
end Go.Jw

namespace Go.Jw
open Go Go.RowKit Go.Proofs Go.ChangeShapes Go.WideShapes Go.ChangeAt Go.Proofs.YtlcfillobkdnmaaGreatDoor
set_option maxRecDepth 100000
noncomputable abbrev jC5 : OpenClaim := Rows.fnWrittenTwiceRow
noncomputable abbrev jS5 : ChangeSpec := (OpenSpec.ofChange Rows.fnWrittenTwiceSpec).bare
noncomputable abbrev jF5 : Func := Tryz.f5
theorem j0_5 : (jC5.wf (OpenSpec.ofChange jS5)) = true := by kernel_rfl
theorem j3_5 : (jF5.params.all (jP.readableRec ·)) = true := by kernel_rfl
theorem j4_5 : (namedTie jP jC5.named jS5.vars) = true := by kernel_rfl
theorem j5_5 : ((jC5.stops == [])) = true := by kernel_rfl
theorem j7_5 : ((jC5.knobs == [])) = true := by kernel_rfl
theorem j9_5 : ((jC5.inPlace == jP.inPlace 5)) = true := by kernel_rfl
theorem j10_5 : ((jC5.unfollowed == jP.unfollowed 5)) = true := by kernel_rfl
theorem j11_5 : ((jC5.recurses == jP.recurses 5)) = true := by kernel_rfl
theorem j12_5 : ((jC5.named == jP.varsNamed 5)) = true := by kernel_rfl
theorem j13_5 : ((jC5.maps == (jF5.params.toList ++ jS5.plain.varTypes jP).any (jP.mapsRec ·))) = true := by kernel_rfl
theorem j14_5 : ((jC5.ifaces == (jF5.params.toList ++ jS5.plain.varTypes jP).any (jP.ifacesRec ·))) = true := by kernel_rfl
theorem j15_5 : ((jC5.mapsOut == jP.mapsAmong jF5.resultTypes.toList)) = true := by kernel_rfl
theorem j16_5 : ((jC5.loops == (jF5.params.toList ++ jS5.plain.varTypes jP).any (jP.loopsFrom ·))) = true := by kernel_rfl
theorem j17_5 : ((jC5.wideKeys == (jF5.params.toList ++ jS5.plain.varTypes jP ++ jF5.resultTypes.toList).any (jP.wideKeysFrom ·))) = true := by kernel_rfl
theorem j18_5 : (jS5.vars.all (jP.varReadable ·)) = true := by kernel_rfl
theorem j19_5 : (jF5.resultTypes.all (fun t => jP.readableRec t && decide (t < jP.types.size))) = true := by kernel_rfl
theorem j20_5 : ((jC5.ifacesOut == jF5.resultTypes.toList.any (jP.ifacesRec ·))) = true := by kernel_rfl
theorem j21_5 : ((jC5.loopsOut == jF5.resultTypes.toList.any (jP.loopsFrom ·))) = true := by kernel_rfl
theorem j22_5 : ((jC5.plainKeys == jP.plainKeys)) = true := by kernel_rfl
theorem j23_5 : (jC5.shortTexts.isNone) = true := by kernel_rfl
theorem j26_5 : ((jC5.lifted == jP.liftsFinal)) = true := by rw [lifts_of jh]; kernel_rfl
theorem j27_5 : ((jP.make == some jC5.make)) = true := by rw [make_of jh]; kernel_rfl
theorem j28_5 : ((jC5.kinds == (if jC5.domain.isEmpty then [] else jF5.params.toList.map fun t => match jP.underlying t with | some (.int k) => some k | _ => none))) = true := by kernel_rfl
theorem j29_5 : ((jC5.pinned == jC5.pinnedBy)) = true := by kernel_rfl
theorem j30_5 : ((jC5.veiled == (jF5.params.toList ++ jS5.plain.varTypes jP ++ jF5.resultTypes.toList).any (jP.veiledRec ·))) = true := by kernel_rfl
theorem j31_5 : (jC5.veiledFits jP jF5.params.toList (jF5.params.toList ++ jS5.plain.varTypes jP ++ jF5.resultTypes.toList)) = true := by kernel_rfl
theorem jAll5 : joinedFacts jP 5 jF5 jS5 jC5 = true := by
  unfold joinedFacts
  simp only [Bool.and_eq_true]
  exact ⟨⟨⟨⟨⟨⟨⟨⟨⟨⟨⟨⟨⟨⟨⟨⟨⟨⟨⟨⟨⟨⟨⟨⟨⟨⟨⟨⟨⟨⟨⟨j0_5, j1⟩, j2⟩, j3_5⟩, j4_5⟩, j5_5⟩, j6⟩, j7_5⟩, j8⟩, j9_5⟩, j10_5⟩, j11_5⟩, j12_5⟩, j13_5⟩, j14_5⟩, j15_5⟩, j16_5⟩, j17_5⟩, j18_5⟩, j19_5⟩, j20_5⟩, j21_5⟩, j22_5⟩, j23_5⟩, j24⟩, j25⟩, j26_5⟩, j27_5⟩, j28_5⟩, j29_5⟩, j30_5⟩, j31_5⟩
theorem jgoes5 : false = jC5.goesBy jP := by kernel_rfl
theorem jtext5 : jC5.wfByText (OpenSpec.ofChange Rows.fnWrittenTwiceSpec) = true := by kernel_rfl
end Go.Jw

namespace Go.Jw
open Go Go.RowKit Go.Proofs Go.ChangeShapes Go.WideShapes Go.ChangeAt Go.Proofs.YtlcfillobkdnmaaGreatDoor
set_option maxRecDepth 100000
theorem reads5 (os : Os) {H : Type} (enc : TypeId × Value → H) : ∃ places, DataW.whole enc Tryz.prog ((laidWorld os).forCall (fun _ _ => 0) ⟨#[], #[wArg], []⟩).memory Tryz.f5.params.toList Rows.fnWrittenTwiceSpec.vars false #[wArg].toList 8 = some ([.agg [.lit (.int .i64 0), .lit (.int .i64 0), .lit (.string []), .nil, .nil]], [], places) :=
  ⟨[], by kernel_rfl⟩
theorem lifted5 (os : Os) (started : os.Started) (H : Type) (enc : TypeId × Value → H) (F : Stop.Interp) :
    ReturnsInHanded {} Tryz.checked os 5 .any ((OpenSpec.ofChange Rows.fnWrittenTwiceSpec).preRow enc Tryz.prog Tryz.f5 Rows.fnWrittenTwiceRow.domain false Rows.fnWrittenTwiceRow.laid) (((OpenSpec.ofChange Rows.fnWrittenTwiceSpec).at F).post enc Tryz.prog Tryz.f5 false true false false) := by
  obtain ⟨places, hx⟩ := reads5 os enc
  refine returnsInHanded_of_row (C := Tryz.checked) (s := (OpenSpec.ofChange Rows.fnWrittenTwiceSpec)) own started (by kernel_rfl) Tryz.func5
    (witness_row_atRef (enc := enc) (C := Tryz.checked) false (laidWorld os) #[wArg] rfl (vars_ref os _) (by kernel_rfl) (by kernel_rfl)
      (OpenSpec.preRow_of_cond 8 hx (by kernel_rfl) (fun k hk => by cases hk) (by kernel_rfl) (laid_met os _))) ?_
  intro W base args ds gs before hval hW _ _ _ hL _ _
  exact contract5 H enc W base args ds gs before hval hW hL
theorem said5 : Rows.FnWrittenTwiceSaid :=
  OpenClaim.holds_of_cond 5 Tryz.f5 rfl rfl rfl rfl rfl rfl rfl ⟨rfl, rfl, rfl, rfl, rfl⟩ rfl rfl rfl rfl rfl (by kernel_rfl) Tryz.func5 jAll5
    (of_decide_eq_true (by kernel_rfl)) (by unfold Func.isWrapper; first | (rw [if_pos (by decide +kernel)]; kernel_rfl) | (rw [if_neg (by decide +kernel)]; exact ⟨rfl, rfl⟩))
    (fun os started H enc _ F => by rw [OpenClaim.pre_eq_preRow]; exact lifted5 os started H enc F)
theorem plain5 (f : FuncId) (fn : Func) (hf : Tryz.pinned.checked.prog.funcNamed "loop.example/pub-g01522/laws.FnWrittenTwice" = some f) (hfn : Tryz.pinned.checked.prog.funcs[f]? = some fn) :
    true = Tryz.pinned.checked.prog.looks [] ∧ ∀ (j : Nat) t, fn.params[j]? = some t → Tryz.pinned.checked.prog.wantsStandIn t = false := by
  obtain rfl : f = 5 := Option.some.inj ((show Tryz.prog.funcNamed "loop.example/pub-g01522/laws.FnWrittenTwice" = some 5 by kernel_rfl).symm.trans hf) |>.symm
  obtain rfl : fn = Tryz.f5 := (Option.some.inj (Tryz.func5.symm.trans hfn)).symm
  refine ⟨by kernel_rfl, fun j t ht => ?_⟩
  rw [Tryz.params5] at ht
  have hm : t ∈ #[25] := Array.mem_of_getElem? ht
  simp only [List.mem_toArray, List.mem_cons, List.not_mem_nil, or_false] at hm
  subst hm
  exact (show Tryz.prog.wantsStandIn 25 = false by kernel_rfl)
theorem card5 : Rows.FnWrittenTwiceCardSaid :=
  Claim7.holds_tied_plain_at .later [] _ _ _ _ said5 (fun _ h => by cases h) jtext5 (fun _ h => by cases h) fnWrittenTwice_row_tie rfl ⟨rfl, rfl⟩ jmain rfl plain5 jgoes5
end Go.Jw
namespace Go.Proofs.YtlcfillobkdnmaaGreatDoor
/-- Whatever the input: the law FnWrittenTwice returns true, and what it reads, reads ags it did. -/
theorem fnWrittenTwice_holds : Rows.FnWrittenTwiceCardSaid := Go.Jw.card5
end Go.Proofs.YtlcfillobkdnmaaGreatDoor

