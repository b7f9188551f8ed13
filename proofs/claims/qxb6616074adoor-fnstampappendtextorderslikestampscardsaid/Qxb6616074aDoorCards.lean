/-
  DERIVED. GIVEN WITH THE SEED: THE CARDS: each row of Qxb6616074aDoorRows.lean that lists a variable, with what it lists TIED to the program's text (the seventh form; the later family's looks); each row that meets fmt, with fmt's text TOLD by the authors' own Lean function (tested against real Go, not proved from fmt's source: count such statements apart). THE CARD IS WHAT COUNTS. Prove the row's statement (the work); the ties are given (Qxb6616074aDoorTie.lean); close each card by the builder's one call (the guide's Derived/Test/ToyasCard.lean, 'card_holds'). Laid BY PROGRAM, IN A SANDBOX (cutbox-door.mjs). By AI agents, Wed Nov 11 2026. No macro, syntax, notation, axiom, sorry.
-/
import Derived.Test.Qxb6616074aDoorRows
import GoSem.ClaimSeven
namespace Go.Proofs.Qxb6616074aDoor
namespace Rows

/-- THE TIED CARD OF 'zzlaws_root_b1.FnStampAppendTextPrefixThenDecimal'. -/
def fnStampAppendTextPrefixThenDecimalCard : Claim7 := { stood := { row := fnStampAppendTextPrefixThenDecimalRow, standIns := [], harness := (true, "07e4c698b4ae2fe473bf7682655c873d43c187ebbef3fcf62cd8d0e7ce285a9d"), looks := false }, kinds := [], alts := [], laidByText := true, laidKinds := [.data, .data, .data], laidTests := true, laidLooks := .later }
def FnStampAppendTextPrefixThenDecimalCardSaid : Prop := Claim7.holds Tryd.pinned (.plain (OpenSpec.ofChange fnStampAppendTextPrefixThenDecimalSpec)) fnStampAppendTextPrefixThenDecimalCard

/-- THE TIED CARD OF 'zzlaws_root_b1.FnStampAppendTextOrdersLikeStamps'. -/
def fnStampAppendTextOrdersLikeStampsCard : Claim7 := { stood := { row := fnStampAppendTextOrdersLikeStampsRow, standIns := [], harness := (true, "07e4c698b4ae2fe473bf7682655c873d43c187ebbef3fcf62cd8d0e7ce285a9d"), looks := false }, kinds := [], alts := [], laidByText := true, laidKinds := [.data, .data, .data], laidTests := true, laidLooks := .later }
def FnStampAppendTextOrdersLikeStampsCardSaid : Prop := Claim7.holds Tryd.pinned (.plain (OpenSpec.ofChange fnStampAppendTextOrdersLikeStampsSpec)) fnStampAppendTextOrdersLikeStampsCard

/-- THE TIED CARD OF 'zzlaws_root_b1.FnStampMarshalTextIsDecimalOfStamp'. -/
def fnStampMarshalTextIsDecimalOfStampCard : Claim7 := { stood := { row := fnStampMarshalTextIsDecimalOfStampRow, standIns := [], harness := (true, "07e4c698b4ae2fe473bf7682655c873d43c187ebbef3fcf62cd8d0e7ce285a9d"), looks := false }, kinds := [], alts := [], laidByText := true, laidKinds := [.data, .data, .data], laidTests := true, laidLooks := .later }
def FnStampMarshalTextIsDecimalOfStampCardSaid : Prop := Claim7.holds Tryd.pinned (.plain (OpenSpec.ofChange fnStampMarshalTextIsDecimalOfStampSpec)) fnStampMarshalTextIsDecimalOfStampCard

/-- THE TIED CARD OF 'zzlaws_root_b1.FnStampMarshalTextDigitExtension'. -/
def fnStampMarshalTextDigitExtensionCard : Claim7 := { stood := { row := fnStampMarshalTextDigitExtensionRow, standIns := [], harness := (true, "07e4c698b4ae2fe473bf7682655c873d43c187ebbef3fcf62cd8d0e7ce285a9d"), looks := false }, kinds := [], alts := [], laidByText := true, laidKinds := [.data, .data, .data], laidTests := true, laidLooks := .later }
def FnStampMarshalTextDigitExtensionCardSaid : Prop := Claim7.holds Tryd.pinned (.plain (OpenSpec.ofChange fnStampMarshalTextDigitExtensionSpec)) fnStampMarshalTextDigitExtensionCard
end Rows
end Go.Proofs.Qxb6616074aDoor
