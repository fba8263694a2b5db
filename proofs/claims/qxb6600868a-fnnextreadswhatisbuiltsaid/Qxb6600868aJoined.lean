/-
  The closed facts of a row, put together out of single ones.
-/
import Derived.JoinedOf
namespace Go.Proofs.Qxb6600868a.Facts

theorem and_of {a b : Bool} (ha : a = true) (hb : b = true) : (a && b) = true := by rw [ha, hb]; rfl

theorem joined_of {P : Program} {f : FuncId} {fn : Func} {s : ChangeSpec} {c : OpenClaim}
    (h0 : (c.wf (OpenSpec.ofChange s)) = true)
    (h1 : (laidOutB P) = true)
    (h2 : (mapsRowed P) = true)
    (h3 : (fn.params.all (P.readableRec ·)) = true)
    (h4 : (namedTie P c.named s.vars) = true)
    (h5 : ((c.stops == [])) = true)
    (h6 : ((P.stops == [])) = true)
    (h7 : ((c.knobs == [])) = true)
    (h8 : ((P.stopKnobs == [])) = true)
    (h9 : ((c.inPlace == P.inPlace f)) = true)
    (h10 : ((c.unfollowed == P.unfollowed f)) = true)
    (h11 : ((c.recurses == P.recurses f)) = true)
    (h12 : ((c.named == P.varsNamed f)) = true)
    (h13 : ((c.maps == (fn.params.toList ++ s.plain.varTypes P).any (P.mapsRec ·))) = true)
    (h14 : ((c.ifaces == (fn.params.toList ++ s.plain.varTypes P).any (P.ifacesRec ·))) = true)
    (h15 : ((c.mapsOut == P.mapsAmong fn.resultTypes.toList)) = true)
    (h16 : ((c.loops == (fn.params.toList ++ s.plain.varTypes P).any (P.loopsFrom ·))) = true)
    (h17 : ((c.wideKeys == (fn.params.toList ++ s.plain.varTypes P ++ fn.resultTypes.toList).any (P.wideKeysFrom ·))) = true)
    (h18 : (s.vars.all (P.varReadable ·)) = true)
    (h19 : (fn.resultTypes.all (fun t => P.readableRec t && decide (t < P.types.size))) = true)
    (h20 : ((c.ifacesOut == fn.resultTypes.toList.any (P.ifacesRec ·))) = true)
    (h21 : ((c.loopsOut == fn.resultTypes.toList.any (P.loopsFrom ·))) = true)
    (h22 : ((c.plainKeys == P.plainKeys)) = true)
    (h23 : (c.shortTexts.isNone) = true)
    (h24 : (P.stopsHeard) = true)
    (h25 : (P.mayEnter) = true)
    (h26 : ((c.lifted == P.liftsFinal)) = true)
    (h27 : ((P.make == some c.make)) = true)
    (h28 : ((c.kinds == (if c.domain.isEmpty then [] else fn.params.toList.map fun t => match P.underlying t with | some (.int k) => some k | _ => none))) = true)
    (h29 : ((c.pinned == c.pinnedBy)) = true)
    (h30 : ((c.veiled == (fn.params.toList ++ s.plain.varTypes P ++ fn.resultTypes.toList).any (P.veiledRec ·))) = true)
    (h31 : (c.veiledFits P fn.params.toList (fn.params.toList ++ s.plain.varTypes P ++ fn.resultTypes.toList)) = true) :
    joinedFacts P f fn s c = true :=
  and_of (and_of (and_of (and_of (and_of (and_of (and_of (and_of (and_of (and_of (and_of (and_of (and_of (and_of (and_of (and_of (and_of (and_of (and_of (and_of (and_of (and_of (and_of (and_of (and_of (and_of (and_of (and_of (and_of (and_of (and_of (h0) h1) h2) h3) h4) h5) h6) h7) h8) h9) h10) h11) h12) h13) h14) h15) h16) h17) h18) h19) h20) h21) h22) h23) h24) h25) h26) h27) h28) h29) h30) h31

end Go.Proofs.Qxb6600868a.Facts
