/-
  NARROWER THAN 'FOR EVERY INPUT', by the rows' own cells (each row's printed sentence says how): LawS2357BNth: laid · LawS2357BBefore: laid · LawS2357CModel: ifaces, laid.
  DERIVED. THE GIVEN ROWS OF THIS SEAT. 3 by the template 'for every input the law returns true; each argument reads behind the call as it read before'; 0 by the template 'total and deterministic' (their statements: YbulkavueDoorTotals.lean).
  GIVEN WITH THE SEED: the statements are not yours to turn. If you find one false, say at which input.
  Laid BY PROGRAM, IN A SANDBOX (cutbox-rows.mjs): the forced cells as the released guide's own fill.sh prints them over the translation 4b436634aa50401b… (all of the seat's roots in one cut). By AI agents, Wed Nov 11 2026. No macro, syntax, notation, axiom, sorry.
-/
import Derived.Test.YbulkavueDoorChecked
import GoSem.Claim
import GoSem.ClaimJoined
import GoSem.ClaimMapViews
import Derived.JoinedTies
import Derived.KernelRfl
namespace Go.Proofs.YbulkavueDoor
/- THE CELL 'sum', in the pinned program and in every row, IS THE sha256 OF THE DUMP (.gsa) THAT YbulkavueDoorProg.lean LOADS. Nothing in Lean hashes anything: it is a label: what it is worth is what the hold of that sum in a sandbox is worth. -/
noncomputable def Ybad.pinned : Pinned := { name := "ybulkavuedoor", sum := "4b436634aa50401bc6107fc5fb35e55eb2b9249c829ac5011cdea9b32a21dc97", checked := Ybad.checked }
namespace Rows
def none {H : Type} : Left H := { results := [], args := [] }

/- WHAT THE LISTED PACKAGE-LEVEL VARIABLES READ AS WHEN THE CALL BEGINS. Each datum BY PROGRAM (the guide's laid-datum.mjs) off the statement by which the dump's own 'gosem.cut.vars' lays the variable. In a bare row this is a premise. The card (YbulkavueDoorCards.lean) ties it to the program's text. -/
def laid_math_bits_deBruijn64tab {H : Type} : DataW H := .agg [.lit (.int .u8 0), .lit (.int .u8 1), .lit (.int .u8 56), .lit (.int .u8 2), .lit (.int .u8 57), .lit (.int .u8 49), .lit (.int .u8 28), .lit (.int .u8 3), .lit (.int .u8 61), .lit (.int .u8 58), .lit (.int .u8 42), .lit (.int .u8 50), .lit (.int .u8 38), .lit (.int .u8 29), .lit (.int .u8 17), .lit (.int .u8 4), .lit (.int .u8 62), .lit (.int .u8 47), .lit (.int .u8 59), .lit (.int .u8 36), .lit (.int .u8 45), .lit (.int .u8 43), .lit (.int .u8 51), .lit (.int .u8 22), .lit (.int .u8 53), .lit (.int .u8 39), .lit (.int .u8 33), .lit (.int .u8 30), .lit (.int .u8 24), .lit (.int .u8 18), .lit (.int .u8 12), .lit (.int .u8 5), .lit (.int .u8 63), .lit (.int .u8 55), .lit (.int .u8 48), .lit (.int .u8 27), .lit (.int .u8 60), .lit (.int .u8 41), .lit (.int .u8 37), .lit (.int .u8 16), .lit (.int .u8 46), .lit (.int .u8 35), .lit (.int .u8 44), .lit (.int .u8 21), .lit (.int .u8 52), .lit (.int .u8 32), .lit (.int .u8 23), .lit (.int .u8 11), .lit (.int .u8 54), .lit (.int .u8 26), .lit (.int .u8 40), .lit (.int .u8 15), .lit (.int .u8 34), .lit (.int .u8 20), .lit (.int .u8 31), .lit (.int .u8 10), .lit (.int .u8 25), .lit (.int .u8 14), .lit (.int .u8 19), .lit (.int .u8 9), .lit (.int .u8 13), .lit (.int .u8 8), .lit (.int .u8 7), .lit (.int .u8 6)]
def laid_example_com_carillon_carillon_internal_store_errTorn {H : Type} : DataW H := .iface "*errors.errorString" (.ptr (.agg [.lit (.string [116, 111, 114, 110, 32, 102, 114, 97, 109, 101])]))

/-- 'schedule.LawS2357BNth': WHATEVER THE INPUT: true; the input reads as it did. -/
def lawS2357BNthSpec : ChangeSpec := { name := "lawS2357BNth", fn := fun _ => fun
  | [d1, d2, d3] => { results := [.lit (.bool true)], args := [d1, d2, d3] }
  | _ => none }
def lawS2357BNthRow : OpenClaim := { program := "ybulkavuedoor", sum := "4b436634aa50401bc6107fc5fb35e55eb2b9249c829ac5011cdea9b32a21dc97", func := "example.com/carillon/carillon/internal/schedule.LawS2357BNth", spec := "lawS2357BNth", named := ["math/bits.deBruijn64tab"], apart := false, laid := [("math/bits.deBruijn64tab", laid_math_bits_deBruijn64tab)] }
def LawS2357BNthSaid : Prop := lawS2357BNthRow.holds Ybad.pinned (OpenSpec.ofChange lawS2357BNthSpec)

/-- ITS FALSE NEIGHBOUR: 'it returns false'. Refute it at one input. -/
def lawS2357BNthWrong : ChangeSpec := { name := "lawS2357BNth", fn := fun _ => fun
  | [d1, d2, d3] => { results := [.lit (.bool false)], args := [d1, d2, d3] }
  | _ => none }
def LawS2357BNthWrongFalsely : Prop := lawS2357BNthRow.holds Ybad.pinned (OpenSpec.ofChange lawS2357BNthWrong)

/-- 'schedule.LawS2357BBefore': WHATEVER THE INPUT: true; the input reads as it did. -/
def lawS2357BBeforeSpec : ChangeSpec := { name := "lawS2357BBefore", fn := fun _ => fun
  | [d1, d2, d3] => { results := [.lit (.bool true)], args := [d1, d2, d3] }
  | _ => none }
def lawS2357BBeforeRow : OpenClaim := { program := "ybulkavuedoor", sum := "4b436634aa50401bc6107fc5fb35e55eb2b9249c829ac5011cdea9b32a21dc97", func := "example.com/carillon/carillon/internal/schedule.LawS2357BBefore", spec := "lawS2357BBefore", named := ["math/bits.deBruijn64tab"], apart := false, laid := [("math/bits.deBruijn64tab", laid_math_bits_deBruijn64tab)] }
def LawS2357BBeforeSaid : Prop := lawS2357BBeforeRow.holds Ybad.pinned (OpenSpec.ofChange lawS2357BBeforeSpec)

/-- ITS FALSE NEIGHBOUR: 'it returns false'. Refute it at one input. -/
def lawS2357BBeforeWrong : ChangeSpec := { name := "lawS2357BBefore", fn := fun _ => fun
  | [d1, d2, d3] => { results := [.lit (.bool false)], args := [d1, d2, d3] }
  | _ => none }
def LawS2357BBeforeWrongFalsely : Prop := lawS2357BBeforeRow.holds Ybad.pinned (OpenSpec.ofChange lawS2357BBeforeWrong)

/-- 'store.LawS2357CModel': WHATEVER THE INPUT: true; the input reads as it did. -/
def lawS2357CModelSpec : ChangeSpec := { name := "lawS2357CModel", vars := ["example.com/carillon/carillon/internal/store.errTorn", "example.com/carillon/carillon/internal/store.castagnoli"], fn := fun _ => fun
  | [d1, d2, g1, g2] => { results := [.lit (.bool true)], args := [d1, d2], vars := [g1, g2] }
  | _ => none }
def lawS2357CModelRow : OpenClaim := { program := "ybulkavuedoor", sum := "4b436634aa50401bc6107fc5fb35e55eb2b9249c829ac5011cdea9b32a21dc97", func := "example.com/carillon/carillon/internal/store.LawS2357CModel", spec := "lawS2357CModel", inPlace := ["sync/atomic.LoadUint32"], unfollowed := true, recurses := true, named := ["example.com/carillon/carillon/internal/store.errTorn", "encoding/binary.LittleEndian", "example.com/carillon/carillon/internal/store.castagnoli", "hash/crc32.haveCastagnoli", "hash/crc32.castagnoliTable", "hash/crc32.updateCastagnoli", "hash/crc32.IEEETable", "hash/crc32.ieeeInitOnce", "hash/crc32.updateIEEE"], ifaces := true, apart := false, laid := [("example.com/carillon/carillon/internal/store.errTorn", laid_example_com_carillon_carillon_internal_store_errTorn)] }
def LawS2357CModelSaid : Prop := lawS2357CModelRow.holds Ybad.pinned (OpenSpec.ofChange lawS2357CModelSpec)

/-- ITS FALSE NEIGHBOUR: 'it returns false'. Refute it at one input. -/
def lawS2357CModelWrong : ChangeSpec := { name := "lawS2357CModel", vars := ["example.com/carillon/carillon/internal/store.errTorn", "example.com/carillon/carillon/internal/store.castagnoli"], fn := fun _ => fun
  | [d1, d2, g1, g2] => { results := [.lit (.bool false)], args := [d1, d2], vars := [g1, g2] }
  | _ => none }
def LawS2357CModelWrongFalsely : Prop := lawS2357CModelRow.holds Ybad.pinned (OpenSpec.ofChange lawS2357CModelWrong)

end Rows
end Go.Proofs.YbulkavueDoor
