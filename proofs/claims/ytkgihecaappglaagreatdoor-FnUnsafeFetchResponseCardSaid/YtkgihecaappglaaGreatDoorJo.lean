/-
  A row's closed facts, reckoned one at a time.
-/
import Derived.JoinedOf
namespace Go.Msk
open Go
set_option maxRecDepth 100000

/-- What a row's closed facts are, but for the long ones. -/
def joinedRest (P : Program) (_f : FuncId) (fn : Func) (s : ChangeSpec) (c : OpenClaim) : Bool :=
  c.wf (OpenSpec.ofChange s) && fn.params.all (P.readableRec ·) && namedTie P c.named s.vars &&
  (c.stops == []) && (P.stops == []) && (c.knobs == []) && (P.stopKnobs == []) &&
  (c.maps == (fn.params.toList ++ s.plain.varTypes P).any (P.mapsRec ·)) && (c.ifaces == (fn.params.toList ++ s.plain.varTypes P).any (P.ifacesRec ·)) && (c.mapsOut == P.mapsAmong fn.resultTypes.toList) &&
  (c.loops == (fn.params.toList ++ s.plain.varTypes P).any (P.loopsFrom ·)) && (c.wideKeys == (fn.params.toList ++ s.plain.varTypes P ++ fn.resultTypes.toList).any (P.wideKeysFrom ·)) &&
  s.vars.all (P.varReadable ·) && fn.resultTypes.all (fun t => P.readableRec t && decide (t < P.types.size)) && (c.ifacesOut == fn.resultTypes.toList.any (P.ifacesRec ·)) && (c.loopsOut == fn.resultTypes.toList.any (P.loopsFrom ·)) && c.shortTexts.isNone && (c.kinds == (if c.domain.isEmpty then [] else fn.params.toList.map fun t => match P.underlying t with | some (.int k) => some k | _ => none)) && (c.pinned == c.pinnedBy) &&
  (c.veiled == (fn.params.toList ++ s.plain.varTypes P ++ fn.resultTypes.toList).any (P.veiledRec ·)) && c.veiledFits P fn.params.toList (fn.params.toList ++ s.plain.varTypes P ++ fn.resultTypes.toList)

/-- The closed facts out of their parts, so that the kernel reckons the long ones one at a time. -/
theorem joined_of {P : Program} {f : FuncId} {fn : Func} {s : ChangeSpec} {c : OpenClaim} (g1 : laidOutB P = true) (g2 : mapsRowed P = true) (g3 : (c.plainKeys == P.plainKeys) = true) (g4 : P.stopsHeard = true) (g5 : P.mayEnter = true) (g6 : (c.lifted == P.liftsFinal) = true) (g7 : (P.make == some c.make) = true)
    (l1 : (c.inPlace == P.inPlace f) = true) (l2 : (c.unfollowed == P.unfollowed f) = true) (l3 : (c.recurses == P.recurses f) = true) (l4 : (c.named == P.varsNamed f) = true) (h : joinedRest P f fn s c = true) : joinedFacts P f fn s c = true := by
  unfold joinedRest at h
  unfold joinedFacts
  simp only [Bool.and_eq_true] at h ⊢
  obtain ⟨⟨⟨⟨⟨⟨⟨⟨⟨⟨⟨⟨⟨⟨⟨⟨⟨⟨⟨⟨k1, k4⟩, k5⟩, k6⟩, k7⟩, k8⟩, k9⟩, k14⟩, k15⟩, k16⟩, k17⟩, k17b⟩, k18⟩, k19⟩, k20⟩, k21⟩, k23⟩, k25⟩, k26⟩, k27⟩, k28⟩ := h
  exact ⟨⟨⟨⟨⟨⟨⟨⟨⟨⟨⟨⟨⟨⟨⟨⟨⟨⟨⟨⟨⟨⟨⟨⟨⟨⟨⟨⟨⟨⟨⟨k1, g1⟩, g2⟩, k4⟩, k5⟩, k6⟩, k7⟩, k8⟩, k9⟩, l1⟩, l2⟩, l3⟩, l4⟩, k14⟩, k15⟩, k16⟩, k17⟩, k17b⟩, k18⟩, k19⟩, k20⟩, k21⟩, g3⟩, k23⟩, g4⟩, g5⟩, g6⟩, g7⟩, k25⟩, k26⟩, k27⟩, k28⟩

end Go.Msk
