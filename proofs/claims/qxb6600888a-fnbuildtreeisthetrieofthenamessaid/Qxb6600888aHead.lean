import Derived.Test.Qxb6600888aRows
import Derived.JoinedOf
import Derived.KernelRfl
namespace Go.Proofs.Qxb6600888a

/-- The signs of the program's own head, by their numbers: its first words, and what follows. -/
def headSigns : List Char := [
  104, 97, 114, 110, 101, 115, 115, 32, 101, 99, 51, 55, 98, 54, 48, 98, 50, 101, 48, 100, 50, 55, 97, 48, 53, 48, 56, 57, 55, 57, 98, 99, 50, 97, 52, 50, 48, 57, 101, 99,
  50, 97, 48, 48, 97, 101, 54, 57, 50, 99, 102, 55, 98, 52, 48, 52, 48, 52, 97, 55, 55, 55, 49, 53, 101, 53, 51, 55, 100, 97, 49, 102, 32, 99, 117, 116, 32].map Char.ofNat
def restSigns : List Char := [
  97, 116, 32, 101, 120, 97, 109, 112, 108, 101, 46, 99, 111, 109, 47, 108, 101, 110, 115, 45, 111, 110, 45, 112, 111, 108, 105, 99, 121, 47, 108, 101, 110, 115, 45, 111, 110, 45, 112, 111,
  108, 105, 99, 121, 47, 122, 122, 108, 97, 119, 115, 95, 114, 111, 111, 116, 95, 98, 49, 46, 70, 110, 66, 117, 105, 108, 100, 84, 114, 101, 101, 73, 115, 84, 104, 101, 84, 114, 105, 101,
  79, 102, 84, 104, 101, 78, 97, 109, 101, 115, 32, 101, 120, 97, 109, 112, 108, 101, 46, 99, 111, 109, 47, 108, 101, 110, 115, 45, 111, 110, 45, 112, 111, 108, 105, 99, 121, 47, 108, 101,
  110, 115, 45, 111, 110, 45, 112, 111, 108, 105, 99, 121, 47, 122, 122, 108, 97, 119, 115, 95, 114, 111, 111, 116, 95, 98, 49, 46, 70, 110, 66, 117, 105, 108, 100, 84, 114, 101, 101, 73,
  103, 110, 111, 114, 101, 115, 84, 104, 101, 83, 107, 105, 112, 112, 101, 100, 80, 114, 101, 102, 105, 120].map Char.ofNat

theorem order_is : Try.prog.initOrder = String.ofList (headSigns ++ restSigns) := by kernel_rfl
theorem wordsSigns_blank (r : List Char) : wordsSigns (' ' :: r) = [] :: wordsSigns r := rfl
theorem words_is (r : List Char) : behindMainWord (wordsSigns (headSigns ++ r)) = ['c', 'u', 't'] :: wordsSigns r := by kernel_rfl
theorem words_at : behindMainWord (wordsSigns Try.prog.initOrder.toList) = ['c', 'u', 't'] :: wordsSigns restSigns := by
  rw [order_is, String.toList_ofList, words_is]
theorem strip_cut (rest : List (List Char)) : stripLifts liftWords (['c', 'u', 't'] :: rest) = ([], ['c', 'u', 't'] :: rest) := by kernel_rfl
theorem mayEnter_of {P : Program} {rest : List (List Char)} (h : behindMainWord (wordsSigns P.initOrder.toList) = ['c', 'u', 't'] :: rest) (h1 : P.laysLater = false) (h2 : P.bearsReflect = false) (h3 : P.doorFits [] = true) : P.mayEnter = true := by
  unfold Program.mayEnter
  rw [h]
  simp only [strip_cut, h1, h2, h3]
  kernel_rfl
theorem lifts_of {P : Program} {rest : List (List Char)} (h : behindMainWord (wordsSigns P.initOrder.toList) = ['c', 'u', 't'] :: rest) : P.headLifts = [] := by
  unfold Program.headLifts
  rw [h, strip_cut]
  kernel_rfl
theorem liftsFinal_of {P : Program} {rest : List (List Char)} (h : behindMainWord (wordsSigns P.initOrder.toList) = ['c', 'u', 't'] :: rest) : P.liftsFinal = false := by
  unfold Program.liftsFinal
  rw [h, lifts_of h]
  kernel_rfl
theorem make_of {P : Program} {rest : List (List Char)} (h : behindMainWord (wordsSigns P.initOrder.toList) = ['c', 'u', 't'] :: rest) : P.make = some .cut := by
  unfold Program.make
  rw [h, lifts_of h]
  kernel_rfl
theorem lays_is : Try.prog.laysLater = false := by kernel_rfl
theorem bears_is : Try.prog.bearsReflect = false := by kernel_rfl
theorem door_is : Try.prog.doorFits [] = true := by kernel_rfl
theorem mayEnter_is : Try.prog.mayEnter = true := mayEnter_of words_at lays_is bears_is door_is
theorem liftsFinal_is : Try.prog.liftsFinal = false := liftsFinal_of words_at
theorem make_is : Try.prog.make = some .cut := make_of words_at
def kindsFit (P : Program) (fn : Func) (c : OpenClaim) : Bool := (c.kinds == (if c.domain.isEmpty then [] else fn.params.toList.map fun t => match P.underlying t with | some (.int k) => some k | _ => none))
theorem band {x y : Bool} (hx : x = true) (hy : y = true) : (x && y) = true := by rw [hx, hy]; rfl
theorem facts_of {P : Program} {f : FuncId} {fn : Func} {s : ChangeSpec} {c : OpenClaim}
    (a0 : (c.wf (OpenSpec.ofChange s)) = true)
    (a1 : (laidOutB P) = true)
    (a2 : (mapsRowed P) = true)
    (a3 : (fn.params.all (P.readableRec ·)) = true)
    (a4 : (namedTie P c.named s.vars) = true)
    (a5 : ((c.stops == [])) = true)
    (a6 : ((P.stops == [])) = true)
    (a7 : ((c.knobs == [])) = true)
    (a8 : ((P.stopKnobs == [])) = true)
    (a9 : ((c.inPlace == P.inPlace f)) = true)
    (a10 : ((c.unfollowed == P.unfollowed f)) = true)
    (a11 : ((c.recurses == P.recurses f)) = true)
    (a12 : ((c.named == P.varsNamed f)) = true)
    (a13 : ((c.maps == (fn.params.toList ++ s.plain.varTypes P).any (P.mapsRec ·))) = true)
    (a14 : ((c.ifaces == (fn.params.toList ++ s.plain.varTypes P).any (P.ifacesRec ·))) = true)
    (a15 : ((c.mapsOut == P.mapsAmong fn.resultTypes.toList)) = true)
    (a16 : ((c.loops == (fn.params.toList ++ s.plain.varTypes P).any (P.loopsFrom ·))) = true)
    (a17 : ((c.wideKeys == (fn.params.toList ++ s.plain.varTypes P ++ fn.resultTypes.toList).any (P.wideKeysFrom ·))) = true)
    (a18 : (s.vars.all (P.varReadable ·)) = true)
    (a19 : (fn.resultTypes.all (fun t => P.readableRec t && decide (t < P.types.size))) = true)
    (a20 : ((c.ifacesOut == fn.resultTypes.toList.any (P.ifacesRec ·))) = true)
    (a21 : ((c.loopsOut == fn.resultTypes.toList.any (P.loopsFrom ·))) = true)
    (a22 : ((c.plainKeys == P.plainKeys)) = true)
    (a23 : (c.shortTexts.isNone) = true)
    (a24 : (P.stopsHeard) = true)
    (a25 : (P.mayEnter) = true)
    (a26 : ((c.lifted == P.liftsFinal)) = true)
    (a27 : ((P.make == some c.make)) = true)
    (a28 : (kindsFit P fn c) = true)
    (a29 : ((c.pinned == c.pinnedBy)) = true)
    (a30 : ((c.veiled == (fn.params.toList ++ s.plain.varTypes P ++ fn.resultTypes.toList).any (P.veiledRec ·))) = true)
    (a31 : (c.veiledFits P fn.params.toList (fn.params.toList ++ s.plain.varTypes P ++ fn.resultTypes.toList)) = true) : joinedFacts P f fn s c = true :=
  (band (band (band (band (band (band (band (band (band (band (band (band (band (band (band (band (band (band (band (band (band (band (band (band (band (band (band (band (band (band (band a0 a1) a2) a3) a4) a5) a6) a7) a8) a9) a10) a11) a12) a13) a14) a15) a16) a17) a18) a19) a20) a21) a22) a23) a24) a25) a26) a27) a28) a29) a30) a31)

end Go.Proofs.Qxb6600888a
