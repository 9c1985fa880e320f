/-
  Closed facts of the program that every row of this seat asks for. The three that read the program's line on how it was cut are reckoned over the LIST of that line's signs
  (by 'String.toList_ofList'), not by running the string's decoder in the kernel: that took 9 GB each.
-/
import Derived.Test.Qxb6613076aRows
import Derived.JoinedOf
import Derived.KernelRfl
namespace Go.Proofs.Qxb6613076a
open Go

/-- The signs of the line, by number. -/
def cutLine : List Nat :=
   [104, 97, 114, 110, 101, 115, 115, 32, 49, 102, 101, 48, 102, 97, 53, 97, 51, 57, 51, 97, 99, 102, 57, 56, 48, 97, 55, 98, 53, 51, 54, 97, 48, 55, 51, 49, 51, 55, 56, 49,
    97, 101, 56, 98, 100, 49, 98, 99, 97, 48, 99, 54, 97, 56, 49, 49, 51, 97, 56, 97, 48, 99, 102, 100, 55, 100, 101, 101, 98, 97, 54, 56, 32, 99, 117, 116, 32, 97, 116, 32,
    101, 120, 97, 109, 112, 108, 101, 46, 99, 111, 109, 47, 116, 105, 100, 101, 103, 97, 116, 101, 47, 116, 105, 100, 101, 103, 97, 116, 101, 47, 122, 122, 108, 97, 119, 115, 95, 114, 111, 111,
    116, 95, 98, 49, 46, 70, 110, 72, 101, 108, 100, 70, 111, 114, 103, 101, 116, 65, 116, 73, 115, 76, 97, 116, 101, 115, 116, 79, 102, 83, 116, 97, 116, 101, 65, 110, 100, 83, 116, 97,
    110, 100, 105, 110, 103, 67, 108, 97, 105, 109, 115, 32, 101, 120, 97, 109, 112, 108, 101, 46, 99, 111, 109, 47, 116, 105, 100, 101, 103, 97, 116, 101, 47, 116, 105, 100, 101, 103, 97, 116,
    101, 47, 122, 122, 108, 97, 119, 115, 95, 114, 111, 111, 116, 95, 98, 49, 46, 70, 110, 72, 101, 108, 100, 70, 111, 114, 103, 101, 116, 65, 116, 69, 97, 114, 108, 105, 101, 114, 70, 108,
    111, 111, 114, 70, 105, 114, 115, 116, 67, 104, 97, 110, 103, 101, 115, 78, 111, 116, 104, 105, 110, 103, 32, 101, 120, 97, 109, 112, 108, 101, 46, 99, 111, 109, 47, 116, 105, 100, 101, 103,
    97, 116, 101, 47, 116, 105, 100, 101, 103, 97, 116, 101, 47, 122, 122, 108, 97, 119, 115, 95, 114, 111, 111, 116, 95, 98, 49, 46, 70, 110, 70, 111, 114, 103, 101, 116, 81, 117, 101, 117,
    101, 76, 101, 115, 115, 73, 115, 83, 116, 114, 105, 99, 116, 79, 114, 100, 101, 114, 79, 102, 70, 111, 114, 103, 101, 116, 84, 105, 109, 101, 115, 32, 101, 120, 97, 109, 112, 108, 101, 46,
    99, 111, 109, 47, 116, 105, 100, 101, 103, 97, 116, 101, 47, 116, 105, 100, 101, 103, 97, 116, 101, 47, 122, 122, 108, 97, 119, 115, 95, 114, 111, 111, 116, 95, 98, 49, 46, 70, 110, 70,
    111, 114, 103, 101, 116, 81, 117, 101, 117, 101, 76, 101, 115, 115, 83, 99, 97, 110, 70, 105, 110, 100, 115, 83, 111, 111, 110, 101, 115, 116, 32, 101, 120, 97, 109, 112, 108, 101, 46, 99,
    111, 109, 47, 116, 105, 100, 101, 103, 97, 116, 101, 47, 116, 105, 100, 101, 103, 97, 116, 101, 47, 122, 122, 108, 97, 119, 115, 95, 114, 111, 111, 116, 95, 98, 49, 46, 70, 110, 66, 117,
    99, 107, 101, 116, 84, 97, 107, 101, 77, 97, 116, 99, 104, 101, 115, 84, 111, 107, 101, 110, 77, 111, 100, 101, 108, 32, 101, 120, 97, 109, 112, 108, 101, 46, 99, 111, 109, 47, 116, 105,
    100, 101, 103, 97, 116, 101, 47, 116, 105, 100, 101, 103, 97, 116, 101, 47, 122, 122, 108, 97, 119, 115, 95, 114, 111, 111, 116, 95, 98, 49, 46, 70, 110, 66, 117, 99, 107, 101, 116, 84,
    97, 107, 101, 82, 101, 109, 97, 105, 110, 105, 110, 103, 65, 110, 100, 87, 97, 105, 116, 65, 114, 101, 69, 120, 97, 99, 116, 32, 101, 120, 97, 109, 112, 108, 101, 46, 99, 111, 109, 47,
    116, 105, 100, 101, 103, 97, 116, 101, 47, 116, 105, 100, 101, 103, 97, 116, 101, 47, 122, 122, 108, 97, 119, 115, 95, 114, 111, 111, 116, 95, 98, 49, 46, 70, 110, 87, 105, 110, 100, 111,
    119, 73, 115, 84, 104, 101, 66, 117, 99, 107, 101, 116, 82, 101, 102, 105, 108, 108, 80, 101, 114, 105, 111, 100, 32, 101, 120, 97, 109, 112, 108, 101, 46, 99, 111, 109, 47, 116, 105, 100,
    101, 103, 97, 116, 101, 47, 116, 105, 100, 101, 103, 97, 116, 101, 47, 122, 122, 108, 97, 119, 115, 95, 114, 111, 111, 116, 95, 98, 49, 46, 70, 110, 87, 105, 110, 100, 111, 119, 73, 115,
    72, 111, 119, 76, 111, 110, 103, 65, 83, 108, 105, 100, 105, 110, 103, 84, 97, 107, 101, 67, 111, 117, 110, 116, 115]
theorem cutLine_eq : Try.prog.initOrder = String.ofList (cutLine.map Char.ofNat) := by
  have h0 : Try.prog.initOrder = Try.progTables.initOrder := by kernel_rfl
  have h : Try.progTables.initOrder = Try.progTables.initOrder := rfl
  conv at h => rhs; unfold Try.progTables; dsimp only
  refine h0.trans (h.trans ?_)
  kernel_rfl
theorem cutList : Try.prog.initOrder.toList = cutLine.map Char.ofNat := by rw [cutLine_eq, String.toList_ofList]
/-- What the three facts come to, the line's signs being L. -/
def liftsOver (L : List Char) : Bool :=
  ((behindMainWord (wordsSigns L)).head? == some "carried".toList && (behindMainWord (wordsSigns L)).take 3 != ["carried".toList, "gc".toList, "cut".toList]) ||
    (if (stripLifts liftWords (behindMainWord (wordsSigns L))).2.head? == some "cut".toList then (stripLifts liftWords (behindMainWord (wordsSigns L))).1 else []).contains "finals"
theorem liftsFinal_over (P : Program) (L : List Char) (h : P.initOrder.toList = L) : P.liftsFinal = liftsOver L := by subst h; rfl
def makeOver (L : List Char) : Option Make :=
  match behindMainWord (wordsSigns L) with
  | c :: rest => if c == "gc".toList || c == "spec".toList then some .whole else if c == "cut".toList || (c == "finals".toList && rest.head? == some "cut".toList) then some .cut else if c == "carried".toList then some .carried
    else if (if (stripLifts liftWords (behindMainWord (wordsSigns L))).2.head? == some "cut".toList then (stripLifts liftWords (behindMainWord (wordsSigns L))).1 else []).isEmpty then none
    else some (.lifted (if (stripLifts liftWords (behindMainWord (wordsSigns L))).2.head? == some "cut".toList then (stripLifts liftWords (behindMainWord (wordsSigns L))).1 else []))
  | [] => none
theorem make_over (P : Program) (L : List Char) (h : P.initOrder.toList = L) : P.make = makeOver L := by subst h; rfl
def enterOver (P : Program) (L : List Char) : Bool :=
  match behindMainWord (wordsSigns L) with
  | c :: rest =>
    ((c == "gc".toList || c == "spec".toList) && (rest.isEmpty || rest.head? == some "stop".toList)) ||
    (c == "carried".toList && rest.take 2 == ["gc".toList, "cut".toList] && !P.laysLater && !P.bearsReflect) ||
    ((stripLifts liftWords (c :: rest)).2.head? == some "cut".toList &&
      ((stripLifts liftWords (c :: rest)).1.contains "finals" || !P.laysLater) && ((stripLifts liftWords (c :: rest)).1.contains "reflectrows" || !P.bearsReflect) &&
      ((stripLifts liftWords (c :: rest)).1.contains "reflectrows" || !(stripLifts liftWords (c :: rest)).1.contains "leanrows") &&
      P.doorFits (stripLifts liftWords (c :: rest)).1)
  | [] => false
theorem mayEnter_over (P : Program) (L : List Char) (h : P.initOrder.toList = L) : P.mayEnter = enterOver P L := by subst h; rfl
theorem closed_mayEnter : Try.prog.mayEnter = true := (mayEnter_over Try.prog _ cutList).trans (by kernel_rfl)
theorem closed_liftsFinal : Try.prog.liftsFinal = false := (liftsFinal_over Try.prog _ cutList).trans (by kernel_rfl)
theorem closed_make : Try.prog.make = some .cut := (make_over Try.prog _ cutList).trans (by kernel_rfl)
theorem closed_laidOut : laidOutB Try.prog = true := by kernel_rfl
theorem closed_mapsRowed : mapsRowed Try.prog = true := by kernel_rfl
set_option maxRecDepth 100000 in
/-- The row's closed facts, one by one: what hangs on the program alone is taken from above. -/
theorem joined_of {f : FuncId} {fn : Func} {s : ChangeSpec} {c : OpenClaim} (k1 : c.wf (OpenSpec.ofChange s) = true) (k4 : fn.params.all (Try.prog.readableRec ·) = true) (k5 : namedTie Try.prog c.named s.vars = true)
    (k6 : (c.stops == []) = true) (k7 : (Try.prog.stops == []) = true) (k8 : (c.knobs == []) = true) (k9 : (Try.prog.stopKnobs == []) = true)
    (k10 : (c.inPlace == Try.prog.inPlace f) = true) (k11 : (c.unfollowed == Try.prog.unfollowed f) = true) (k12 : (c.recurses == Try.prog.recurses f) = true) (k13 : (c.named == Try.prog.varsNamed f) = true)
    (k14 : ((c.maps == (fn.params.toList ++ s.plain.varTypes Try.prog).any (Try.prog.mapsRec ·)) && (c.ifaces == (fn.params.toList ++ s.plain.varTypes Try.prog).any (Try.prog.ifacesRec ·)) && (c.mapsOut == Try.prog.mapsAmong fn.resultTypes.toList) &&
      (c.loops == (fn.params.toList ++ s.plain.varTypes Try.prog).any (Try.prog.loopsFrom ·)) && (c.wideKeys == (fn.params.toList ++ s.plain.varTypes Try.prog ++ fn.resultTypes.toList).any (Try.prog.wideKeysFrom ·)) &&
      s.vars.all (Try.prog.varReadable ·) && fn.resultTypes.all (fun t => Try.prog.readableRec t && decide (t < Try.prog.types.size)) && (c.ifacesOut == fn.resultTypes.toList.any (Try.prog.ifacesRec ·)) && (c.loopsOut == fn.resultTypes.toList.any (Try.prog.loopsFrom ·)) && (c.plainKeys == Try.prog.plainKeys) &&
      c.shortTexts.isNone && Try.prog.stopsHeard) = true)
    (k27 : c.lifted = false) (k28 : c.make = .cut)
    (k29 : ((c.kinds == (if c.domain.isEmpty then [] else fn.params.toList.map fun t => match Try.prog.underlying t with | some (.int k) => some k | _ => none)) && (c.pinned == c.pinnedBy) &&
      (c.veiled == (fn.params.toList ++ s.plain.varTypes Try.prog ++ fn.resultTypes.toList).any (Try.prog.veiledRec ·)) && c.veiledFits Try.prog fn.params.toList (fn.params.toList ++ s.plain.varTypes Try.prog ++ fn.resultTypes.toList)) = true) :
    joinedFacts Try.prog f fn s c = true := by
  simp only [Bool.and_eq_true] at k14 k29
  obtain ⟨⟨⟨⟨⟨⟨⟨⟨⟨⟨⟨a14, a15⟩, a16⟩, a17⟩, a18⟩, a19⟩, a20⟩, a21⟩, a22⟩, a23⟩, a24⟩, a25⟩ := k14
  obtain ⟨⟨⟨a29, a30⟩, a31⟩, a32⟩ := k29
  have m27 : (c.lifted == Try.prog.liftsFinal) = true := by rw [k27, closed_liftsFinal]; rfl
  have m28 : (Try.prog.make == some c.make) = true := by rw [k28, closed_make]; rfl
  unfold joinedFacts
  simp only [Bool.and_eq_true]
  exact ⟨⟨⟨⟨⟨⟨⟨⟨⟨⟨⟨⟨⟨⟨⟨⟨⟨⟨⟨⟨⟨⟨⟨⟨⟨⟨⟨⟨⟨⟨⟨k1, closed_laidOut⟩, closed_mapsRowed⟩, k4⟩, k5⟩, k6⟩, k7⟩, k8⟩, k9⟩, k10⟩, k11⟩, k12⟩, k13⟩, a14⟩, a15⟩, a16⟩, a17⟩, a18⟩, a19⟩, a20⟩, a21⟩, a22⟩, a23⟩, a24⟩, a25⟩, closed_mayEnter⟩, m27⟩, m28⟩, a29⟩, a30⟩, a31⟩, a32⟩
end Go.Proofs.Qxb6613076a
