/- Closed facts on the program's head (shared by all claims of this seat): the words at the head of the translation say that the program is cut, so nothing is lifted and the program may be entered. No conditions. -/
import Derived.Test.YtaifikhgijnkgaaRows
import Derived.JoinedOf
import Derived.KernelRfl
namespace Go.Proofs.Ytaifikhgijnkgaa
open Go

theorem words_word (w : List Char) (hw : w.all (fun c => c != Char.ofNat 32) = true) (r : List Char) : wordsSigns (w ++ Char.ofNat 32 :: r) = w :: wordsSigns r := by
  induction w with
  | nil => rfl
  | cons c w ih =>
    simp only [List.all_cons, Bool.and_eq_true, bne_iff_ne] at hw
    have h2 := ih hw.2
    show wordsSigns (c :: (w ++ Char.ofNat 32 :: r)) = _
    rw [wordsSigns]
    · rw [h2]
    · exact fun h => hw.1 h

/-- The words behind the first two. -/
theorem behind_words (P : Program) (a b c r : List Char) (ha : a = "harness".toList) (hb : isSumSigns b = true)
    (wa : a.all (fun c => c != Char.ofNat 32) = true) (wb : b.all (fun c => c != Char.ofNat 32) = true) (wc : c.all (fun c => c != Char.ofNat 32) = true)
    (h : P.initOrder = String.ofList (a ++ (Char.ofNat 32 :: (b ++ (Char.ofNat 32 :: (c ++ Char.ofNat 32 :: r)))))) :
    behindMainWord (wordsSigns P.initOrder.toList) = c :: wordsSigns r := by
  rw [h, String.toList_ofList, words_word a wa, words_word b wb, words_word c wc]
  unfold behindMainWord
  simp only [ha, hb, BEq.rfl, Bool.true_or, Bool.and_self, if_true]

theorem strip_cut (ws : List (List Char)) : stripLifts liftWords ("cut".toList :: ws) = ([], "cut".toList :: ws) := by
  simp [stripLifts, liftWords]

theorem lifts_of (P : Program) (ws : List (List Char)) (h : behindMainWord (wordsSigns P.initOrder.toList) = "cut".toList :: ws) : P.liftsFinal = false := by
  unfold Program.liftsFinal Program.headLifts
  rw [h, strip_cut]
  simp

theorem make_of (P : Program) (ws : List (List Char)) (h : behindMainWord (wordsSigns P.initOrder.toList) = "cut".toList :: ws) : P.make = some .cut := by
  unfold Program.make
  rw [h]
  simp

theorem enter_of (P : Program) (ws : List (List Char)) (h : behindMainWord (wordsSigns P.initOrder.toList) = "cut".toList :: ws)
    (h1 : P.laysLater = false) (h2 : P.bearsReflect = false) (h3 : P.doorFits [] = true) : P.mayEnter = true := by
  unfold Program.mayEnter
  rw [h]
  dsimp only
  rw [strip_cut, h1, h2, h3]
  simp

set_option maxRecDepth 100000 in
theorem init_eq : Try.prog.initOrder = String.ofList ("harness".toList ++ (Char.ofNat 32 :: ("0b48aff8b3025456bfe743fd66ffeff4d7e7077cd60f4f808bd254af0c9a706a".toList ++ (Char.ofNat 32 :: ("cut".toList ++ Char.ofNat 32 :: ([97,116,32,108,105,98,45,115,105,101,118,101,119,114,105,103,104,116,47,108,97,119,115,46,70,110,73,110,116,76,101,110,32,108,105,98,45,115,105,101,118,101,119,114,105,103,104,116,47,108,97,119,115,46,70,110,73,110,116,76,101,115,115,32,108,105,98,45,115,105,101,118,101,119,114,105,103,104,116,47,108,97,119,115,46,70,110,83,116,114,105,110,103,76,101,115,115,32,108,105,98,45,115,105,101,118,101,119,114,105,103,104,116,47,108,97,119,115,46,70,110,83,116,114,105,110,103,76,101,115,115,84,111,116,97,108,32,108,105,98,45,115,105,101,118,101,119,114,105,103,104,116,47,108,97,119,115,46,70,110,83,108,105,99,101,84,104,101,110,83,111,114,116,101,100,32,108,105,98,45,115,105,101,118,101,119,114,105,103,104,116,47,108,97,119,115,46,70,110,73,110,116,83,119,97,112,32,108,105,98,45,115,105,101,118,101,119,114,105,103,104,116,47,108,97,119,115,46,70,110,73,110,116,83,119,97,112,84,119,105,99,101,32,108,105,98,45,115,105,101,118,101,119,114,105,103,104,116,47,108,97,119,115,46,70,110,73,110,116,76,101,115,115,84,111,116,97,108,32,108,105,98,45,115,105,101,118,101,119,114,105,103,104,116,47,108,97,119,115,46,70,110,70,108,111,97,116,83,111,114,116,115,65,103,114,101,101,32,108,105,98,45,115,105,101,118,101,119,114,105,103,104,116,47,108,97,119,115,46,70,110,70,108,111,97,116,54,52,76,101,115,115,32,108,105,98,45,115,105,101,118,101,119,114,105,103,104,116,47,108,97,119,115,46,70,110,82,101,118,101,114,115,101,83,119,97,112,32,108,105,98,45,115,105,101,118,101,119,114,105,103,104,116,47,108,97,119,115,46,70,110,82,101,118,101,114,115,101,76,101,115,115,32,108,105,98,45,115,105,101,118,101,119,114,105,103,104,116,47,108,97,119,115,46,70,110,73,110,116,83,101,97,114,99,104,32,108,105,98,45,115,105,101,118,101,119,114,105,103,104,116,47,108,97,119,115,46,70,110,83,108,105,99,101,82,101,118,101,114,115,101,100,32,108,105,98,45,115,105,101,118,101,119,114,105,103,104,116,47,108,97,119,115,46,70,110,83,116,114,105,110,103,83,101,97,114,99,104,32,108,105,98,45,115,105,101,118,101,119,114,105,103,104,116,47,108,97,119,115,46,70,110,82,101,118,101,114,115,101,73,115,83,111,114,116,101,100,32,108,105,98,45,115,105,101,118,101,119,114,105,103,104,116,47,108,97,119,115,46,70,110,70,108,111,97,116,54,52,115,65,114,101,83,111,114,116,101,100,32,108,105,98,45,115,105,101,118,101,119,114,105,103,104,116,47,108,97,119,115,46,70,110,70,108,111,97,116,83,111,114,116,101,100,66,121,76,101,115,115,32,108,105,98,45,115,105,101,118,101,119,114,105,103,104,116,47,108,97,119,115,46,70,110,83,108,105,99,101,73,115,83,111,114,116,101,100,32,108,105,98,45,115,105,101,118,101,119,114,105,103,104,116,47,108,97,119,115,46,70,110,82,101,118,101,114,115,101,83,116,97,98,108,101,32,108,105,98,45,115,105,101,118,101,119,114,105,103,104,116,47,108,97,119,115,46,70,110,82,101,118,101,114,115,101,83,116,97,98,108,101,79,102,82,101,118,101,114,115,101,100,32,108,105,98,45,115,105,101,118,101,119,114,105,103,104,116,47,108,97,119,115,46,70,110,73,110,116,83,111,114,116,32,108,105,98,45,115,105,101,118,101,119,114,105,103,104,116,47,108,97,119,115,46,70,110,83,116,114,105,110,103,83,111,114,116,32,108,105,98,45,115,105,101,118,101,119,114,105,103,104,116,47,108,97,119,115,46,70,110,82,101,118,101,114,115,101,83,111,114,116,32,108,105,98,45,115,105,101,118,101,119,114,105,103,104,116,47,108,97,119,115,46,70,110,70,108,111,97,116,54,52,115,32,108,105,98,45,115,105,101,118,101,119,114,105,103,104,116,47,108,97,119,115,46,70,110,70,108,111,97,116,54,52,115,66,105,116,115,32,108,105,98,45,115,105,101,118,101,119,114,105,103,104,116,47,108,97,119,115,46,70,110,70,108,111,97,116,54,52,83,111,114,116,32,108,105,98,45,115,105,101,118,101,119,114,105,103,104,116,47,108,97,119,115,46,70,110,70,108,111,97,116,54,52,83,111,114,116,66,105,116,115,32,108,105,98,45,115,105,101,118,101,119,114,105,103,104,116,47,108,97,119,115,46,70,110,73,110,116,73,110,115,101,114,116,101,100,32,108,105,98,45,115,105,101,118,101,119,114,105,103,104,116,47,108,97,119,115,46,70,110,83,116,114,105,110,103,73,110,115,101,114,116,101,100,32,108,105,98,45,115,105,101,118,101,119,114,105,103,104,116,47,108,97,119,115,46,70,110,70,108,111,97,116,70,111,117,110,100,32,108,105,98,45,115,105,101,118,101,119,114,105,103,104,116,47,108,97,119,115,46,70,110,83,101,97,114,99,104,70,108,111,97,116,54,52,115,32,108,105,98,45,115,105,101,118,101,119,114,105,103,104,116,47,108,97,119,115,46,70,110,70,108,111,97,116,54,52,83,101,97,114,99,104,32,108,105,98,45,115,105,101,118,101,119,114,105,103,104,116,47,108,97,119,115,46,70,110,82,101,118,101,114,115,101,84,104,101,110,83,111,114,116,101,100,32,108,105,98,45,115,105,101,118,101,119,114,105,103,104,116,47,108,97,119,115,46,70,110,83,108,105,99,101,32,108,105,98,45,115,105,101,118,101,119,114,105,103,104,116,47,108,97,119,115,46,70,110,83,108,105,99,101,65,110,121].map Char.ofNat)))))) := by kernel_rfl

theorem head_words : ∃ ws, behindMainWord (wordsSigns Try.prog.initOrder.toList) = "cut".toList :: ws :=
  ⟨_, behind_words Try.prog _ _ _ _ rfl (by decide +kernel) (by decide +kernel) (by decide +kernel) (by decide +kernel) init_eq⟩

theorem lifts_none : Try.prog.liftsFinal = false := let ⟨ws, h⟩ := head_words; lifts_of _ ws h
theorem made_cut : Try.prog.make = some .cut := let ⟨ws, h⟩ := head_words; make_of _ ws h
theorem lays_not : Try.prog.laysLater = false := by kernel_rfl
theorem bears_not : Try.prog.bearsReflect = false := by kernel_rfl
theorem door_fits : Try.prog.doorFits [] = true := by kernel_rfl
theorem may_enter : Try.prog.mayEnter = true := let ⟨ws, h⟩ := head_words; enter_of _ ws h lays_not bears_not door_fits

theorem own : ownKnob Try.prog.godebug = none := by kernel_rfl
theorem laidOut : laidOutB Try.prog = true := by kernel_rfl

/-- The row's closed facts, those on the head's words taken from above. -/
theorem joined_of (P : Program) (f : FuncId) (fn : Func) (s : ChangeSpec) (c : OpenClaim) (e1 : P.mayEnter = true) (e2 : P.liftsFinal = false) (e3 : P.make = some .cut)
    (a1 : (c.wf (OpenSpec.ofChange s) && laidOutB P && mapsRowed P && fn.params.all (P.readableRec ·) && namedTie P c.named s.vars && (c.stops == []) && (P.stops == []) && (c.knobs == []) && (P.stopKnobs == [])) = true)
    (a2 : ((c.inPlace == P.inPlace f) && (c.unfollowed == P.unfollowed f) && (c.recurses == P.recurses f) && (c.named == P.varsNamed f)) = true)
    (a3 : ((c.maps == (fn.params.toList ++ s.plain.varTypes P).any (P.mapsRec ·)) && (c.ifaces == (fn.params.toList ++ s.plain.varTypes P).any (P.ifacesRec ·)) && (c.mapsOut == P.mapsAmong fn.resultTypes.toList) &&
      (c.loops == (fn.params.toList ++ s.plain.varTypes P).any (P.loopsFrom ·)) && (c.wideKeys == (fn.params.toList ++ s.plain.varTypes P ++ fn.resultTypes.toList).any (P.wideKeysFrom ·)) &&
      s.vars.all (P.varReadable ·) && fn.resultTypes.all (fun t => P.readableRec t && decide (t < P.types.size)) && (c.ifacesOut == fn.resultTypes.toList.any (P.ifacesRec ·)) && (c.loopsOut == fn.resultTypes.toList.any (P.loopsFrom ·)) && (c.plainKeys == P.plainKeys) && c.shortTexts.isNone && P.stopsHeard) = true)
    (a4 : ((c.lifted == false) && (some Make.cut == some c.make) && (c.kinds == (if c.domain.isEmpty then [] else fn.params.toList.map fun t => match P.underlying t with | some (.int k) => some k | _ => none)) && (c.pinned == c.pinnedBy) &&
      (c.veiled == (fn.params.toList ++ s.plain.varTypes P ++ fn.resultTypes.toList).any (P.veiledRec ·)) && c.veiledFits P fn.params.toList (fn.params.toList ++ s.plain.varTypes P ++ fn.resultTypes.toList)) = true) :
    joinedFacts P f fn s c = true := by
  unfold joinedFacts
  rw [e1, e2, e3]
  simp only [Bool.and_eq_true] at a1 a2 a3 a4 ⊢
  have k := a4.1.1.1.2
  simp only [a1, a2, a3, a4, and_self, true_and, and_true]
  exact k
#print axioms joined_of
end Go.Proofs.Ytaifikhgijnkgaa
