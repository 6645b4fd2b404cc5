/-
  No cell of these rows narrows 'for every input' (looked for: loops, veiled, ifaces, maps, wideKeys, modest, calm, conditions, laid).
  DERIVED. THE GIVEN ROWS OF THIS SEAT. 7 by the template 'for every input the law returns true; each argument reads behind the call as it read before'; 0 by the template 'total and deterministic' (their statements: Qxb6600781aTotals.lean).
  GIVEN WITH THE SEED: the statements are not yours to turn. If you find one false, say at which input.
  Laid BY PROGRAM, IN A SANDBOX (cutbox-rows.mjs): the forced cells as the released guide's own fill.sh prints them over the translation 824e95b8122c9a68… (all of the seat's roots in one cut). By AI agents, Wed Nov 11 2026. No macro, syntax, notation, axiom, sorry.
-/
import Derived.Test.Qxb6600781aChecked
import GoSem.Claim
import GoSem.ClaimJoined
import GoSem.ClaimMapViews
import Derived.JoinedTies
import Derived.KernelRfl
namespace Go.Proofs.Qxb6600781a
/- THE CELL 'sum', in the pinned program and in every row, IS THE sha256 OF THE DUMP (.gsa) THAT Qxb6600781aProg.lean LOADS. Nothing in Lean hashes anything: it is a label: what it is worth is what the hold of that sum in a sandbox is worth. -/
noncomputable def Try.pinned : Pinned := { name := "qxb6600781a", sum := "824e95b8122c9a6803d45644f47b74a648866813070faf0de65c596e9da0b555", checked := Try.checked }
namespace Rows
def none {H : Type} : Left H := { results := [], args := [] }

/-- 'zzlaws_root_b1.FnArithmeticTypeSwap': WHATEVER THE INPUT: true; the input reads as it did. -/
def fnArithmeticTypeSwapSpec : ChangeSpec := { name := "fnArithmeticTypeSwap", fn := fun _ => fun
  | [d1, d2, d3, d4, d5, d6, d7, d8, d9] => { results := [.lit (.bool true)], args := [d1, d2, d3, d4, d5, d6, d7, d8, d9] }
  | _ => none }
def fnArithmeticTypeSwapRow : OpenClaim := { program := "qxb6600781a", sum := "824e95b8122c9a6803d45644f47b74a648866813070faf0de65c596e9da0b555", func := "example.com/tidewater/tidewater/zzlaws_root_b1.FnArithmeticTypeSwap", spec := "fnArithmeticTypeSwap", apart := false }
def FnArithmeticTypeSwapSaid : Prop := fnArithmeticTypeSwapRow.holds Try.pinned (OpenSpec.ofChange fnArithmeticTypeSwapSpec)

/-- ITS FALSE NEIGHBOUR: 'it returns false'. Refute it at one input. -/
def fnArithmeticTypeSwapWrong : ChangeSpec := { name := "fnArithmeticTypeSwap", fn := fun _ => fun
  | [d1, d2, d3, d4, d5, d6, d7, d8, d9] => { results := [.lit (.bool false)], args := [d1, d2, d3, d4, d5, d6, d7, d8, d9] }
  | _ => none }
def FnArithmeticTypeSwapWrongFalsely : Prop := fnArithmeticTypeSwapRow.holds Try.pinned (OpenSpec.ofChange fnArithmeticTypeSwapWrong)

/-- 'zzlaws_root_b1.FnArithmeticTypeAssociative': WHATEVER THE INPUT: true; the input reads as it did. -/
def fnArithmeticTypeAssociativeSpec : ChangeSpec := { name := "fnArithmeticTypeAssociative", fn := fun _ => fun
  | [d1, d2, d3, d4, d5, d6, d7, d8, d9, d10, d11, d12] => { results := [.lit (.bool true)], args := [d1, d2, d3, d4, d5, d6, d7, d8, d9, d10, d11, d12] }
  | _ => none }
def fnArithmeticTypeAssociativeRow : OpenClaim := { program := "qxb6600781a", sum := "824e95b8122c9a6803d45644f47b74a648866813070faf0de65c596e9da0b555", func := "example.com/tidewater/tidewater/zzlaws_root_b1.FnArithmeticTypeAssociative", spec := "fnArithmeticTypeAssociative", apart := false }
def FnArithmeticTypeAssociativeSaid : Prop := fnArithmeticTypeAssociativeRow.holds Try.pinned (OpenSpec.ofChange fnArithmeticTypeAssociativeSpec)

/-- ITS FALSE NEIGHBOUR: 'it returns false'. Refute it at one input. -/
def fnArithmeticTypeAssociativeWrong : ChangeSpec := { name := "fnArithmeticTypeAssociative", fn := fun _ => fun
  | [d1, d2, d3, d4, d5, d6, d7, d8, d9, d10, d11, d12] => { results := [.lit (.bool false)], args := [d1, d2, d3, d4, d5, d6, d7, d8, d9, d10, d11, d12] }
  | _ => none }
def FnArithmeticTypeAssociativeWrongFalsely : Prop := fnArithmeticTypeAssociativeRow.holds Try.pinned (OpenSpec.ofChange fnArithmeticTypeAssociativeWrong)

/-- 'zzlaws_root_b1.FnArithmeticTypeOpsAgree': WHATEVER THE INPUT: true; the input reads as it did. -/
def fnArithmeticTypeOpsAgreeSpec : ChangeSpec := { name := "fnArithmeticTypeOpsAgree", fn := fun _ => fun
  | [d1, d2, d3, d4, d5, d6, d7, d8] => { results := [.lit (.bool true)], args := [d1, d2, d3, d4, d5, d6, d7, d8] }
  | _ => none }
def fnArithmeticTypeOpsAgreeRow : OpenClaim := { program := "qxb6600781a", sum := "824e95b8122c9a6803d45644f47b74a648866813070faf0de65c596e9da0b555", func := "example.com/tidewater/tidewater/zzlaws_root_b1.FnArithmeticTypeOpsAgree", spec := "fnArithmeticTypeOpsAgree", apart := false }
def FnArithmeticTypeOpsAgreeSaid : Prop := fnArithmeticTypeOpsAgreeRow.holds Try.pinned (OpenSpec.ofChange fnArithmeticTypeOpsAgreeSpec)

/-- ITS FALSE NEIGHBOUR: 'it returns false'. Refute it at one input. -/
def fnArithmeticTypeOpsAgreeWrong : ChangeSpec := { name := "fnArithmeticTypeOpsAgree", fn := fun _ => fun
  | [d1, d2, d3, d4, d5, d6, d7, d8] => { results := [.lit (.bool false)], args := [d1, d2, d3, d4, d5, d6, d7, d8] }
  | _ => none }
def FnArithmeticTypeOpsAgreeWrongFalsely : Prop := fnArithmeticTypeOpsAgreeRow.holds Try.pinned (OpenSpec.ofChange fnArithmeticTypeOpsAgreeWrong)

/-- 'zzlaws_root_b1.FnDecimalDigitsSwap': WHATEVER THE INPUT: true; the input reads as it did. -/
def fnDecimalDigitsSwapSpec : ChangeSpec := { name := "fnDecimalDigitsSwap", fn := fun _ => fun
  | [d1, d2, d3, d4, d5, d6, d7, d8, d9] => { results := [.lit (.bool true)], args := [d1, d2, d3, d4, d5, d6, d7, d8, d9] }
  | _ => none }
def fnDecimalDigitsSwapRow : OpenClaim := { program := "qxb6600781a", sum := "824e95b8122c9a6803d45644f47b74a648866813070faf0de65c596e9da0b555", func := "example.com/tidewater/tidewater/zzlaws_root_b1.FnDecimalDigitsSwap", spec := "fnDecimalDigitsSwap", apart := false }
def FnDecimalDigitsSwapSaid : Prop := fnDecimalDigitsSwapRow.holds Try.pinned (OpenSpec.ofChange fnDecimalDigitsSwapSpec)

/-- ITS FALSE NEIGHBOUR: 'it returns false'. Refute it at one input. -/
def fnDecimalDigitsSwapWrong : ChangeSpec := { name := "fnDecimalDigitsSwap", fn := fun _ => fun
  | [d1, d2, d3, d4, d5, d6, d7, d8, d9] => { results := [.lit (.bool false)], args := [d1, d2, d3, d4, d5, d6, d7, d8, d9] }
  | _ => none }
def FnDecimalDigitsSwapWrongFalsely : Prop := fnDecimalDigitsSwapRow.holds Try.pinned (OpenSpec.ofChange fnDecimalDigitsSwapWrong)

/-- 'zzlaws_root_b1.FnDecimalDigitsOpsAgree': WHATEVER THE INPUT: true; the input reads as it did. -/
def fnDecimalDigitsOpsAgreeSpec : ChangeSpec := { name := "fnDecimalDigitsOpsAgree", fn := fun _ => fun
  | [d1, d2, d3, d4, d5, d6, d7, d8] => { results := [.lit (.bool true)], args := [d1, d2, d3, d4, d5, d6, d7, d8] }
  | _ => none }
def fnDecimalDigitsOpsAgreeRow : OpenClaim := { program := "qxb6600781a", sum := "824e95b8122c9a6803d45644f47b74a648866813070faf0de65c596e9da0b555", func := "example.com/tidewater/tidewater/zzlaws_root_b1.FnDecimalDigitsOpsAgree", spec := "fnDecimalDigitsOpsAgree", apart := false }
def FnDecimalDigitsOpsAgreeSaid : Prop := fnDecimalDigitsOpsAgreeRow.holds Try.pinned (OpenSpec.ofChange fnDecimalDigitsOpsAgreeSpec)

/-- ITS FALSE NEIGHBOUR: 'it returns false'. Refute it at one input. -/
def fnDecimalDigitsOpsAgreeWrong : ChangeSpec := { name := "fnDecimalDigitsOpsAgree", fn := fun _ => fun
  | [d1, d2, d3, d4, d5, d6, d7, d8] => { results := [.lit (.bool false)], args := [d1, d2, d3, d4, d5, d6, d7, d8] }
  | _ => none }
def FnDecimalDigitsOpsAgreeWrongFalsely : Prop := fnDecimalDigitsOpsAgreeRow.holds Try.pinned (OpenSpec.ofChange fnDecimalDigitsOpsAgreeWrong)

/-- 'zzlaws_root_b1.FnDecimalDigitsWellFormed': WHATEVER THE INPUT: true; the input reads as it did. -/
def fnDecimalDigitsWellFormedSpec : ChangeSpec := { name := "fnDecimalDigitsWellFormed", fn := fun _ => fun
  | [d1, d2, d3, d4, d5, d6, d7, d8, d9] => { results := [.lit (.bool true)], args := [d1, d2, d3, d4, d5, d6, d7, d8, d9] }
  | _ => none }
def fnDecimalDigitsWellFormedRow : OpenClaim := { program := "qxb6600781a", sum := "824e95b8122c9a6803d45644f47b74a648866813070faf0de65c596e9da0b555", func := "example.com/tidewater/tidewater/zzlaws_root_b1.FnDecimalDigitsWellFormed", spec := "fnDecimalDigitsWellFormed", apart := false }
def FnDecimalDigitsWellFormedSaid : Prop := fnDecimalDigitsWellFormedRow.holds Try.pinned (OpenSpec.ofChange fnDecimalDigitsWellFormedSpec)

/-- ITS FALSE NEIGHBOUR: 'it returns false'. Refute it at one input. -/
def fnDecimalDigitsWellFormedWrong : ChangeSpec := { name := "fnDecimalDigitsWellFormed", fn := fun _ => fun
  | [d1, d2, d3, d4, d5, d6, d7, d8, d9] => { results := [.lit (.bool false)], args := [d1, d2, d3, d4, d5, d6, d7, d8, d9] }
  | _ => none }
def FnDecimalDigitsWellFormedWrongFalsely : Prop := fnDecimalDigitsWellFormedRow.holds Try.pinned (OpenSpec.ofChange fnDecimalDigitsWellFormedWrong)

/-- 'zzlaws_root_b1.FnDecimalDigitsMonotoneInLength': WHATEVER THE INPUT: true; the input reads as it did. -/
def fnDecimalDigitsMonotoneInLengthSpec : ChangeSpec := { name := "fnDecimalDigitsMonotoneInLength", fn := fun _ => fun
  | [d1, d2, d3, d4, d5, d6, d7, d8, d9, d10] => { results := [.lit (.bool true)], args := [d1, d2, d3, d4, d5, d6, d7, d8, d9, d10] }
  | _ => none }
def fnDecimalDigitsMonotoneInLengthRow : OpenClaim := { program := "qxb6600781a", sum := "824e95b8122c9a6803d45644f47b74a648866813070faf0de65c596e9da0b555", func := "example.com/tidewater/tidewater/zzlaws_root_b1.FnDecimalDigitsMonotoneInLength", spec := "fnDecimalDigitsMonotoneInLength", apart := false }
def FnDecimalDigitsMonotoneInLengthSaid : Prop := fnDecimalDigitsMonotoneInLengthRow.holds Try.pinned (OpenSpec.ofChange fnDecimalDigitsMonotoneInLengthSpec)

/-- ITS FALSE NEIGHBOUR: 'it returns false'. Refute it at one input. -/
def fnDecimalDigitsMonotoneInLengthWrong : ChangeSpec := { name := "fnDecimalDigitsMonotoneInLength", fn := fun _ => fun
  | [d1, d2, d3, d4, d5, d6, d7, d8, d9, d10] => { results := [.lit (.bool false)], args := [d1, d2, d3, d4, d5, d6, d7, d8, d9, d10] }
  | _ => none }
def FnDecimalDigitsMonotoneInLengthWrongFalsely : Prop := fnDecimalDigitsMonotoneInLengthRow.holds Try.pinned (OpenSpec.ofChange fnDecimalDigitsMonotoneInLengthWrong)

end Rows
end Go.Proofs.Qxb6600781a
