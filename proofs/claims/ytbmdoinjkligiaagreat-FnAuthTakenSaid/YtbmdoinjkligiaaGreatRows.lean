/-
  No cell of these rows narrows 'for every input' (looked for: loops, veiled, ifaces, maps, wideKeys, modest, calm, conditions, laid).
  DERIVED. THE GIVEN ROWS OF THIS SEAT. 8 by the template 'for every input the law returns true; each argument reads behind the call as it read before'; 0 by the template 'total and deterministic' (their statements: YtbmdoinjkligiaaGreatTotals.lean).
  GIVEN WITH THE SEED: the statements are not yours to turn. If you find one false, say at which input.
  Laid BY PROGRAM, IN A SANDBOX (cutbox-rows.mjs): the forced cells as the released guide's own fill.sh prints them over the translation ed1b9ec2f947bf50… (all of the seat's roots in one cut). By AI agents, Wed Nov 11 2026. No macro, syntax, notation, axiom, sorry.
-/
import Derived.Test.YtbmdoinjkligiaaGreatChecked
import GoSem.Claim
import GoSem.ClaimJoined
import GoSem.ClaimMapViews
import Derived.JoinedTies
import Derived.KernelRfl
namespace Go.Proofs.YtbmdoinjkligiaaGreat
/- THE CELL 'sum', in the pinned program and in every row, IS THE sha256 OF THE DUMP (.gsa) THAT YtbmdoinjkligiaaGreatProg.lean LOADS. Nothing in Lean hashes anything: it is a label: what it is worth is what the hold of that sum in a sandbox is worth. -/
noncomputable def Tryz.pinned : Pinned := { name := "ytbmdoinjkligiaagreat", sum := "ed1b9ec2f947bf50a56c7d02a99b5acde5692276b8f3dd185dbd6d41a5b85673", checked := Tryz.checked }
namespace Rows
def none {H : Type} : Left H := { results := [], args := [] }

/-- 'laws.FnAuthAnswers': WHATEVER THE INPUT: true; the input reads as it did. -/
def fnAuthAnswersSpec : ChangeSpec := { name := "fnAuthAnswers", fn := fun _ => fun
  | [d] => { results := [.lit (.bool true)], args := [d] }
  | _ => none }
def fnAuthAnswersRow : OpenClaim := { program := "ytbmdoinjkligiaagreat", sum := "ed1b9ec2f947bf50a56c7d02a99b5acde5692276b8f3dd185dbd6d41a5b85673", func := "pub-stadtholder/laws.FnAuthAnswers", spec := "fnAuthAnswers", inPlace := ["internal/bytealg.Compare"], unfollowed := true, recurses := true, apart := false }
def FnAuthAnswersSaid : Prop := fnAuthAnswersRow.holds Tryz.pinned (OpenSpec.ofChange fnAuthAnswersSpec)

/-- ITS FALSE NEIGHBOUR: 'it returns false'. Refute it at one input. -/
def fnAuthAnswersWrong : ChangeSpec := { name := "fnAuthAnswers", fn := fun _ => fun
  | [d] => { results := [.lit (.bool false)], args := [d] }
  | _ => none }
def FnAuthAnswersWrongFalsely : Prop := fnAuthAnswersRow.holds Tryz.pinned (OpenSpec.ofChange fnAuthAnswersWrong)

/-- 'laws.FnAuthNames': WHATEVER THE INPUT: true; the input reads as it did. -/
def fnAuthNamesSpec : ChangeSpec := { name := "fnAuthNames", fn := fun _ => fun
  | [d1, d2, d3, d4] => { results := [.lit (.bool true)], args := [d1, d2, d3, d4] }
  | _ => none }
def fnAuthNamesRow : OpenClaim := { program := "ytbmdoinjkligiaagreat", sum := "ed1b9ec2f947bf50a56c7d02a99b5acde5692276b8f3dd185dbd6d41a5b85673", func := "pub-stadtholder/laws.FnAuthNames", spec := "fnAuthNames", inPlace := ["internal/bytealg.Compare"], unfollowed := true, recurses := true, apart := false }
def FnAuthNamesSaid : Prop := fnAuthNamesRow.holds Tryz.pinned (OpenSpec.ofChange fnAuthNamesSpec)

/-- ITS FALSE NEIGHBOUR: 'it returns false'. Refute it at one input. -/
def fnAuthNamesWrong : ChangeSpec := { name := "fnAuthNames", fn := fun _ => fun
  | [d1, d2, d3, d4] => { results := [.lit (.bool false)], args := [d1, d2, d3, d4] }
  | _ => none }
def FnAuthNamesWrongFalsely : Prop := fnAuthNamesRow.holds Tryz.pinned (OpenSpec.ofChange fnAuthNamesWrong)

/-- 'laws.FnAuthOff': WHATEVER THE INPUT: true; the input reads as it did. -/
def fnAuthOffSpec : ChangeSpec := { name := "fnAuthOff", fn := fun _ => fun
  | [d] => { results := [.lit (.bool true)], args := [d] }
  | _ => none }
def fnAuthOffRow : OpenClaim := { program := "ytbmdoinjkligiaagreat", sum := "ed1b9ec2f947bf50a56c7d02a99b5acde5692276b8f3dd185dbd6d41a5b85673", func := "pub-stadtholder/laws.FnAuthOff", spec := "fnAuthOff", inPlace := ["internal/bytealg.Compare"], unfollowed := true, recurses := true, apart := false }
def FnAuthOffSaid : Prop := fnAuthOffRow.holds Tryz.pinned (OpenSpec.ofChange fnAuthOffSpec)

/-- ITS FALSE NEIGHBOUR: 'it returns false'. Refute it at one input. -/
def fnAuthOffWrong : ChangeSpec := { name := "fnAuthOff", fn := fun _ => fun
  | [d] => { results := [.lit (.bool false)], args := [d] }
  | _ => none }
def FnAuthOffWrongFalsely : Prop := fnAuthOffRow.holds Tryz.pinned (OpenSpec.ofChange fnAuthOffWrong)

/-- 'laws.FnAuthOld': WHATEVER THE INPUT: true; the input reads as it did. -/
def fnAuthOldSpec : ChangeSpec := { name := "fnAuthOld", fn := fun _ => fun
  | [d1, d2, d3] => { results := [.lit (.bool true)], args := [d1, d2, d3] }
  | _ => none }
def fnAuthOldRow : OpenClaim := { program := "ytbmdoinjkligiaagreat", sum := "ed1b9ec2f947bf50a56c7d02a99b5acde5692276b8f3dd185dbd6d41a5b85673", func := "pub-stadtholder/laws.FnAuthOld", spec := "fnAuthOld", inPlace := ["internal/bytealg.Compare"], unfollowed := true, recurses := true, apart := false }
def FnAuthOldSaid : Prop := fnAuthOldRow.holds Tryz.pinned (OpenSpec.ofChange fnAuthOldSpec)

/-- ITS FALSE NEIGHBOUR: 'it returns false'. Refute it at one input. -/
def fnAuthOldWrong : ChangeSpec := { name := "fnAuthOld", fn := fun _ => fun
  | [d1, d2, d3] => { results := [.lit (.bool false)], args := [d1, d2, d3] }
  | _ => none }
def FnAuthOldWrongFalsely : Prop := fnAuthOldRow.holds Tryz.pinned (OpenSpec.ofChange fnAuthOldWrong)

/-- 'laws.FnAuthOpens': WHATEVER THE INPUT: true; the input reads as it did. -/
def fnAuthOpensSpec : ChangeSpec := { name := "fnAuthOpens", fn := fun _ => fun
  | [d1, d2, d3] => { results := [.lit (.bool true)], args := [d1, d2, d3] }
  | _ => none }
def fnAuthOpensRow : OpenClaim := { program := "ytbmdoinjkligiaagreat", sum := "ed1b9ec2f947bf50a56c7d02a99b5acde5692276b8f3dd185dbd6d41a5b85673", func := "pub-stadtholder/laws.FnAuthOpens", spec := "fnAuthOpens", inPlace := ["internal/bytealg.Compare"], unfollowed := true, recurses := true, apart := false }
def FnAuthOpensSaid : Prop := fnAuthOpensRow.holds Tryz.pinned (OpenSpec.ofChange fnAuthOpensSpec)

/-- ITS FALSE NEIGHBOUR: 'it returns false'. Refute it at one input. -/
def fnAuthOpensWrong : ChangeSpec := { name := "fnAuthOpens", fn := fun _ => fun
  | [d1, d2, d3] => { results := [.lit (.bool false)], args := [d1, d2, d3] }
  | _ => none }
def FnAuthOpensWrongFalsely : Prop := fnAuthOpensRow.holds Tryz.pinned (OpenSpec.ofChange fnAuthOpensWrong)

/-- 'laws.FnAuthRevision': WHATEVER THE INPUT: true; the input reads as it did. -/
def fnAuthRevisionSpec : ChangeSpec := { name := "fnAuthRevision", fn := fun _ => fun
  | [d] => { results := [.lit (.bool true)], args := [d] }
  | _ => none }
def fnAuthRevisionRow : OpenClaim := { program := "ytbmdoinjkligiaagreat", sum := "ed1b9ec2f947bf50a56c7d02a99b5acde5692276b8f3dd185dbd6d41a5b85673", func := "pub-stadtholder/laws.FnAuthRevision", spec := "fnAuthRevision", inPlace := ["internal/bytealg.Compare"], unfollowed := true, recurses := true, apart := false }
def FnAuthRevisionSaid : Prop := fnAuthRevisionRow.holds Tryz.pinned (OpenSpec.ofChange fnAuthRevisionSpec)

/-- ITS FALSE NEIGHBOUR: 'it returns false'. Refute it at one input. -/
def fnAuthRevisionWrong : ChangeSpec := { name := "fnAuthRevision", fn := fun _ => fun
  | [d] => { results := [.lit (.bool false)], args := [d] }
  | _ => none }
def FnAuthRevisionWrongFalsely : Prop := fnAuthRevisionRow.holds Tryz.pinned (OpenSpec.ofChange fnAuthRevisionWrong)

/-- 'laws.FnAuthTaken': WHATEVER THE INPUT: true; the input reads as it did. -/
def fnAuthTakenSpec : ChangeSpec := { name := "fnAuthTaken", fn := fun _ => fun
  | [d1, d2, d3, d4, d5, d6] => { results := [.lit (.bool true)], args := [d1, d2, d3, d4, d5, d6] }
  | _ => none }
def fnAuthTakenRow : OpenClaim := { program := "ytbmdoinjkligiaagreat", sum := "ed1b9ec2f947bf50a56c7d02a99b5acde5692276b8f3dd185dbd6d41a5b85673", func := "pub-stadtholder/laws.FnAuthTaken", spec := "fnAuthTaken", inPlace := ["internal/bytealg.Compare"], unfollowed := true, recurses := true, apart := false }
def FnAuthTakenSaid : Prop := fnAuthTakenRow.holds Tryz.pinned (OpenSpec.ofChange fnAuthTakenSpec)

/-- ITS FALSE NEIGHBOUR: 'it returns false'. Refute it at one input. -/
def fnAuthTakenWrong : ChangeSpec := { name := "fnAuthTaken", fn := fun _ => fun
  | [d1, d2, d3, d4, d5, d6] => { results := [.lit (.bool false)], args := [d1, d2, d3, d4, d5, d6] }
  | _ => none }
def FnAuthTakenWrongFalsely : Prop := fnAuthTakenRow.holds Tryz.pinned (OpenSpec.ofChange fnAuthTakenWrong)

/-- 'laws.FnAuthUnion': WHATEVER THE INPUT: true; the input reads as it did. -/
def fnAuthUnionSpec : ChangeSpec := { name := "fnAuthUnion", fn := fun _ => fun
  | [d1, d2, d3, d4, d5, d6] => { results := [.lit (.bool true)], args := [d1, d2, d3, d4, d5, d6] }
  | _ => none }
def fnAuthUnionRow : OpenClaim := { program := "ytbmdoinjkligiaagreat", sum := "ed1b9ec2f947bf50a56c7d02a99b5acde5692276b8f3dd185dbd6d41a5b85673", func := "pub-stadtholder/laws.FnAuthUnion", spec := "fnAuthUnion", inPlace := ["internal/bytealg.Compare"], unfollowed := true, recurses := true, apart := false }
def FnAuthUnionSaid : Prop := fnAuthUnionRow.holds Tryz.pinned (OpenSpec.ofChange fnAuthUnionSpec)

/-- ITS FALSE NEIGHBOUR: 'it returns false'. Refute it at one input. -/
def fnAuthUnionWrong : ChangeSpec := { name := "fnAuthUnion", fn := fun _ => fun
  | [d1, d2, d3, d4, d5, d6] => { results := [.lit (.bool false)], args := [d1, d2, d3, d4, d5, d6] }
  | _ => none }
def FnAuthUnionWrongFalsely : Prop := fnAuthUnionRow.holds Tryz.pinned (OpenSpec.ofChange fnAuthUnionWrong)

/- THE SECOND FORM. 'bulk': how many values and letters a reading holds, each counted each time it is reached (what is shared counts as often as it is met; a slice's spare places count too). A statement '..UptoSaid' is the law's where the arguments, and the package variables that the reading takes, are together of bulk at most 1048576: NARROWER than '..Said'. Prove '..Said' where nothing that the law and all that it calls make is longer than what came in: it says more and counts as full. Else prove '..UptoSaid'. A law counts once. -/
mutual
def uptoBulk {H : Type} : DataW H → Nat
  | .lit (.string bytes) => bytes.length + 1
  | .lit _ => 1
  | .nil => 1
  | .ptr d => uptoBulk d + 1
  | .slice elems spare => uptoBulkAll elems + uptoBulkAll spare + 1
  | .agg parts => uptoBulkAll parts + 1
  | .iface _ d => uptoBulk d + 1
  | .map entries => uptoBulkEntries entries + 1
  | .held _ => 1
def uptoBulkAll {H : Type} : List (DataW H) → Nat
  | [] => 0
  | d :: r => uptoBulk d + uptoBulkAll r
def uptoBulkEntries {H : Type} : List (Lit × DataW H) → Nat
  | [] => 0
  | x :: r => uptoBulkEntry x + uptoBulkEntries r
def uptoBulkEntry {H : Type} : Lit × DataW H → Nat
  | (.string bytes, d) => bytes.length + uptoBulk d + 1
  | (_, d) => uptoBulk d + 1
 end
def uptoSmall : (H : Type) → List (DataW H) → Bool := fun _ ds => decide (uptoBulkAll ds ≤ 1048576)
def OpenSpec.upto (s : _root_.Go.ChangeSpec) : _root_.Go.OpenSpec := { _root_.Go.OpenSpec.ofChange s with cond := some uptoSmall }

/-- 'laws.FnAuthAnswers', WHERE WHAT IT READS IS OF BULK AT MOST 1048576: true; the input reads as it did. -/
def fnAuthAnswersUptoRow : OpenClaim := { program := "ytbmdoinjkligiaagreat", sum := "ed1b9ec2f947bf50a56c7d02a99b5acde5692276b8f3dd185dbd6d41a5b85673", func := "pub-stadtholder/laws.FnAuthAnswers", spec := "fnAuthAnswers", inPlace := ["internal/bytealg.Compare"], unfollowed := true, recurses := true, apart := false, narrowed := true }
def FnAuthAnswersUptoSaid : Prop := fnAuthAnswersUptoRow.holds Tryz.pinned (OpenSpec.upto fnAuthAnswersSpec)

/-- 'laws.FnAuthNames', WHERE WHAT IT READS IS OF BULK AT MOST 1048576: true; the input reads as it did. -/
def fnAuthNamesUptoRow : OpenClaim := { program := "ytbmdoinjkligiaagreat", sum := "ed1b9ec2f947bf50a56c7d02a99b5acde5692276b8f3dd185dbd6d41a5b85673", func := "pub-stadtholder/laws.FnAuthNames", spec := "fnAuthNames", inPlace := ["internal/bytealg.Compare"], unfollowed := true, recurses := true, apart := false, narrowed := true }
def FnAuthNamesUptoSaid : Prop := fnAuthNamesUptoRow.holds Tryz.pinned (OpenSpec.upto fnAuthNamesSpec)

/-- 'laws.FnAuthOff', WHERE WHAT IT READS IS OF BULK AT MOST 1048576: true; the input reads as it did. -/
def fnAuthOffUptoRow : OpenClaim := { program := "ytbmdoinjkligiaagreat", sum := "ed1b9ec2f947bf50a56c7d02a99b5acde5692276b8f3dd185dbd6d41a5b85673", func := "pub-stadtholder/laws.FnAuthOff", spec := "fnAuthOff", inPlace := ["internal/bytealg.Compare"], unfollowed := true, recurses := true, apart := false, narrowed := true }
def FnAuthOffUptoSaid : Prop := fnAuthOffUptoRow.holds Tryz.pinned (OpenSpec.upto fnAuthOffSpec)

/-- 'laws.FnAuthOld', WHERE WHAT IT READS IS OF BULK AT MOST 1048576: true; the input reads as it did. -/
def fnAuthOldUptoRow : OpenClaim := { program := "ytbmdoinjkligiaagreat", sum := "ed1b9ec2f947bf50a56c7d02a99b5acde5692276b8f3dd185dbd6d41a5b85673", func := "pub-stadtholder/laws.FnAuthOld", spec := "fnAuthOld", inPlace := ["internal/bytealg.Compare"], unfollowed := true, recurses := true, apart := false, narrowed := true }
def FnAuthOldUptoSaid : Prop := fnAuthOldUptoRow.holds Tryz.pinned (OpenSpec.upto fnAuthOldSpec)

/-- 'laws.FnAuthOpens', WHERE WHAT IT READS IS OF BULK AT MOST 1048576: true; the input reads as it did. -/
def fnAuthOpensUptoRow : OpenClaim := { program := "ytbmdoinjkligiaagreat", sum := "ed1b9ec2f947bf50a56c7d02a99b5acde5692276b8f3dd185dbd6d41a5b85673", func := "pub-stadtholder/laws.FnAuthOpens", spec := "fnAuthOpens", inPlace := ["internal/bytealg.Compare"], unfollowed := true, recurses := true, apart := false, narrowed := true }
def FnAuthOpensUptoSaid : Prop := fnAuthOpensUptoRow.holds Tryz.pinned (OpenSpec.upto fnAuthOpensSpec)

/-- 'laws.FnAuthRevision', WHERE WHAT IT READS IS OF BULK AT MOST 1048576: true; the input reads as it did. -/
def fnAuthRevisionUptoRow : OpenClaim := { program := "ytbmdoinjkligiaagreat", sum := "ed1b9ec2f947bf50a56c7d02a99b5acde5692276b8f3dd185dbd6d41a5b85673", func := "pub-stadtholder/laws.FnAuthRevision", spec := "fnAuthRevision", inPlace := ["internal/bytealg.Compare"], unfollowed := true, recurses := true, apart := false, narrowed := true }
def FnAuthRevisionUptoSaid : Prop := fnAuthRevisionUptoRow.holds Tryz.pinned (OpenSpec.upto fnAuthRevisionSpec)

/-- 'laws.FnAuthTaken', WHERE WHAT IT READS IS OF BULK AT MOST 1048576: true; the input reads as it did. -/
def fnAuthTakenUptoRow : OpenClaim := { program := "ytbmdoinjkligiaagreat", sum := "ed1b9ec2f947bf50a56c7d02a99b5acde5692276b8f3dd185dbd6d41a5b85673", func := "pub-stadtholder/laws.FnAuthTaken", spec := "fnAuthTaken", inPlace := ["internal/bytealg.Compare"], unfollowed := true, recurses := true, apart := false, narrowed := true }
def FnAuthTakenUptoSaid : Prop := fnAuthTakenUptoRow.holds Tryz.pinned (OpenSpec.upto fnAuthTakenSpec)

/-- 'laws.FnAuthUnion', WHERE WHAT IT READS IS OF BULK AT MOST 1048576: true; the input reads as it did. -/
def fnAuthUnionUptoRow : OpenClaim := { program := "ytbmdoinjkligiaagreat", sum := "ed1b9ec2f947bf50a56c7d02a99b5acde5692276b8f3dd185dbd6d41a5b85673", func := "pub-stadtholder/laws.FnAuthUnion", spec := "fnAuthUnion", inPlace := ["internal/bytealg.Compare"], unfollowed := true, recurses := true, apart := false, narrowed := true }
def FnAuthUnionUptoSaid : Prop := fnAuthUnionUptoRow.holds Tryz.pinned (OpenSpec.upto fnAuthUnionSpec)

end Rows
end Go.Proofs.YtbmdoinjkligiaaGreat
