/-
  No cell of these rows narrows 'for every input' (looked for: loops, veiled, ifaces, maps, wideKeys, modest, calm, conditions, laid).
  DERIVED. THE GIVEN ROWS OF THIS SEAT. 6 by the template 'for every input the law returns true; each argument reads behind the call as it read before'; 0 by the template 'total and deterministic' (their statements: Qxb6003262aTotals.lean).
  GIVEN WITH THE SEED: the statements are not yours to turn. If you find one false, say at which input.
  Laid BY PROGRAM, IN A SANDBOX (cutbox-rows.mjs): the forced cells as the released guide's own fill.sh prints them over the translation af50d72ee079a882… (all of the seat's roots in one cut). By AI agents, Wed Nov 11 2026. No macro, syntax, notation, axiom, sorry.
-/
import Derived.Test.Qxb6003262aChecked
import GoSem.Claim
import GoSem.ClaimJoined
import GoSem.ClaimMapViews
import Derived.JoinedTies
import Derived.KernelRfl
namespace Go.Proofs.Qxb6003262a
/- THE CELL 'sum', in the pinned program and in every row, IS THE sha256 OF THE DUMP (.gsa) THAT Qxb6003262aProg.lean LOADS. Nothing in Lean hashes anything: it is a label: what it is worth is what the hold of that sum in a sandbox is worth. -/
noncomputable def Try.pinned : Pinned := { name := "qxb6003262a", sum := "af50d72ee079a882abd80ae90bc379fe43b9d68003296047438110c35746e180", checked := Try.checked }
namespace Rows
def none {H : Type} : Left H := { results := [], args := [] }

/-- 'zzlaws_pkg_history_b1.FnLongUvarintAtMatchesDigitFold': WHATEVER THE INPUT: true; the input reads as it did. -/
def fnLongUvarintAtMatchesDigitFoldSpec : ChangeSpec := { name := "fnLongUvarintAtMatchesDigitFold", fn := fun _ => fun
  | [d1, d2] => { results := [.lit (.bool true)], args := [d1, d2] }
  | _ => none }
def fnLongUvarintAtMatchesDigitFoldRow : OpenClaim := { program := "qxb6003262a", sum := "af50d72ee079a882abd80ae90bc379fe43b9d68003296047438110c35746e180", func := "example.com/slackline/slackline/zzlaws_pkg_history_b1.FnLongUvarintAtMatchesDigitFold", spec := "fnLongUvarintAtMatchesDigitFold", apart := false }
def FnLongUvarintAtMatchesDigitFoldSaid : Prop := fnLongUvarintAtMatchesDigitFoldRow.holds Try.pinned (OpenSpec.ofChange fnLongUvarintAtMatchesDigitFoldSpec)

/-- ITS FALSE NEIGHBOUR: 'it returns false'. Refute it at one input. -/
def fnLongUvarintAtMatchesDigitFoldWrong : ChangeSpec := { name := "fnLongUvarintAtMatchesDigitFold", fn := fun _ => fun
  | [d1, d2] => { results := [.lit (.bool false)], args := [d1, d2] }
  | _ => none }
def FnLongUvarintAtMatchesDigitFoldWrongFalsely : Prop := fnLongUvarintAtMatchesDigitFoldRow.holds Try.pinned (OpenSpec.ofChange fnLongUvarintAtMatchesDigitFoldWrong)

/-- 'zzlaws_pkg_history_b1.FnLongUvarintAtReadsBackEncoding': WHATEVER THE INPUT: true; the input reads as it did. -/
def fnLongUvarintAtReadsBackEncodingSpec : ChangeSpec := { name := "fnLongUvarintAtReadsBackEncoding", fn := fun _ => fun
  | [d1, d2, d3] => { results := [.lit (.bool true)], args := [d1, d2, d3] }
  | _ => none }
def fnLongUvarintAtReadsBackEncodingRow : OpenClaim := { program := "qxb6003262a", sum := "af50d72ee079a882abd80ae90bc379fe43b9d68003296047438110c35746e180", func := "example.com/slackline/slackline/zzlaws_pkg_history_b1.FnLongUvarintAtReadsBackEncoding", spec := "fnLongUvarintAtReadsBackEncoding", apart := false }
def FnLongUvarintAtReadsBackEncodingSaid : Prop := fnLongUvarintAtReadsBackEncodingRow.holds Try.pinned (OpenSpec.ofChange fnLongUvarintAtReadsBackEncodingSpec)

/-- ITS FALSE NEIGHBOUR: 'it returns false'. Refute it at one input. -/
def fnLongUvarintAtReadsBackEncodingWrong : ChangeSpec := { name := "fnLongUvarintAtReadsBackEncoding", fn := fun _ => fun
  | [d1, d2, d3] => { results := [.lit (.bool false)], args := [d1, d2, d3] }
  | _ => none }
def FnLongUvarintAtReadsBackEncodingWrongFalsely : Prop := fnLongUvarintAtReadsBackEncodingRow.holds Try.pinned (OpenSpec.ofChange fnLongUvarintAtReadsBackEncodingWrong)

/-- 'zzlaws_pkg_history_b1.FnUvarintAtAgreesWithByteAtATime': WHATEVER THE INPUT: true; the input reads as it did. -/
def fnUvarintAtAgreesWithByteAtATimeSpec : ChangeSpec := { name := "fnUvarintAtAgreesWithByteAtATime", fn := fun _ => fun
  | [d1, d2] => { results := [.lit (.bool true)], args := [d1, d2] }
  | _ => none }
def fnUvarintAtAgreesWithByteAtATimeRow : OpenClaim := { program := "qxb6003262a", sum := "af50d72ee079a882abd80ae90bc379fe43b9d68003296047438110c35746e180", func := "example.com/slackline/slackline/zzlaws_pkg_history_b1.FnUvarintAtAgreesWithByteAtATime", spec := "fnUvarintAtAgreesWithByteAtATime", apart := false }
def FnUvarintAtAgreesWithByteAtATimeSaid : Prop := fnUvarintAtAgreesWithByteAtATimeRow.holds Try.pinned (OpenSpec.ofChange fnUvarintAtAgreesWithByteAtATimeSpec)

/-- ITS FALSE NEIGHBOUR: 'it returns false'. Refute it at one input. -/
def fnUvarintAtAgreesWithByteAtATimeWrong : ChangeSpec := { name := "fnUvarintAtAgreesWithByteAtATime", fn := fun _ => fun
  | [d1, d2] => { results := [.lit (.bool false)], args := [d1, d2] }
  | _ => none }
def FnUvarintAtAgreesWithByteAtATimeWrongFalsely : Prop := fnUvarintAtAgreesWithByteAtATimeRow.holds Try.pinned (OpenSpec.ofChange fnUvarintAtAgreesWithByteAtATimeWrong)

/-- 'zzlaws_pkg_history_b1.FnCodecPlaceReadsBackOwnRecord': WHATEVER THE INPUT: true; the input reads as it did. -/
def fnCodecPlaceReadsBackOwnRecordSpec : ChangeSpec := { name := "fnCodecPlaceReadsBackOwnRecord", fn := fun _ => fun
  | [d1, d2, d3, d4, d5, d6, d7, d8] => { results := [.lit (.bool true)], args := [d1, d2, d3, d4, d5, d6, d7, d8] }
  | _ => none }
def fnCodecPlaceReadsBackOwnRecordRow : OpenClaim := { program := "qxb6003262a", sum := "af50d72ee079a882abd80ae90bc379fe43b9d68003296047438110c35746e180", func := "example.com/slackline/slackline/zzlaws_pkg_history_b1.FnCodecPlaceReadsBackOwnRecord", spec := "fnCodecPlaceReadsBackOwnRecord", apart := false }
def FnCodecPlaceReadsBackOwnRecordSaid : Prop := fnCodecPlaceReadsBackOwnRecordRow.holds Try.pinned (OpenSpec.ofChange fnCodecPlaceReadsBackOwnRecordSpec)

/-- ITS FALSE NEIGHBOUR: 'it returns false'. Refute it at one input. -/
def fnCodecPlaceReadsBackOwnRecordWrong : ChangeSpec := { name := "fnCodecPlaceReadsBackOwnRecord", fn := fun _ => fun
  | [d1, d2, d3, d4, d5, d6, d7, d8] => { results := [.lit (.bool false)], args := [d1, d2, d3, d4, d5, d6, d7, d8] }
  | _ => none }
def FnCodecPlaceReadsBackOwnRecordWrongFalsely : Prop := fnCodecPlaceReadsBackOwnRecordRow.holds Try.pinned (OpenSpec.ofChange fnCodecPlaceReadsBackOwnRecordWrong)

/-- 'zzlaws_pkg_history_b1.FnTurnsDownMatchesTextbookSiftDown': WHATEVER THE INPUT: true; the input reads as it did. -/
def fnTurnsDownMatchesTextbookSiftDownSpec : ChangeSpec := { name := "fnTurnsDownMatchesTextbookSiftDown", fn := fun _ => fun
  | [d1, d2] => { results := [.lit (.bool true)], args := [d1, d2] }
  | _ => none }
def fnTurnsDownMatchesTextbookSiftDownRow : OpenClaim := { program := "qxb6003262a", sum := "af50d72ee079a882abd80ae90bc379fe43b9d68003296047438110c35746e180", func := "example.com/slackline/slackline/zzlaws_pkg_history_b1.FnTurnsDownMatchesTextbookSiftDown", spec := "fnTurnsDownMatchesTextbookSiftDown", apart := false }
def FnTurnsDownMatchesTextbookSiftDownSaid : Prop := fnTurnsDownMatchesTextbookSiftDownRow.holds Try.pinned (OpenSpec.ofChange fnTurnsDownMatchesTextbookSiftDownSpec)

/-- ITS FALSE NEIGHBOUR: 'it returns false'. Refute it at one input. -/
def fnTurnsDownMatchesTextbookSiftDownWrong : ChangeSpec := { name := "fnTurnsDownMatchesTextbookSiftDown", fn := fun _ => fun
  | [d1, d2] => { results := [.lit (.bool false)], args := [d1, d2] }
  | _ => none }
def FnTurnsDownMatchesTextbookSiftDownWrongFalsely : Prop := fnTurnsDownMatchesTextbookSiftDownRow.holds Try.pinned (OpenSpec.ofChange fnTurnsDownMatchesTextbookSiftDownWrong)

/-- 'zzlaws_pkg_history_b1.FnTurnsDownHeapsortsTurns': WHATEVER THE INPUT: true; the input reads as it did. -/
def fnTurnsDownHeapsortsTurnsSpec : ChangeSpec := { name := "fnTurnsDownHeapsortsTurns", fn := fun _ => fun
  | [d] => { results := [.lit (.bool true)], args := [d] }
  | _ => none }
def fnTurnsDownHeapsortsTurnsRow : OpenClaim := { program := "qxb6003262a", sum := "af50d72ee079a882abd80ae90bc379fe43b9d68003296047438110c35746e180", func := "example.com/slackline/slackline/zzlaws_pkg_history_b1.FnTurnsDownHeapsortsTurns", spec := "fnTurnsDownHeapsortsTurns", recurses := true, apart := false }
def FnTurnsDownHeapsortsTurnsSaid : Prop := fnTurnsDownHeapsortsTurnsRow.holds Try.pinned (OpenSpec.ofChange fnTurnsDownHeapsortsTurnsSpec)

/-- ITS FALSE NEIGHBOUR: 'it returns false'. Refute it at one input. -/
def fnTurnsDownHeapsortsTurnsWrong : ChangeSpec := { name := "fnTurnsDownHeapsortsTurns", fn := fun _ => fun
  | [d] => { results := [.lit (.bool false)], args := [d] }
  | _ => none }
def FnTurnsDownHeapsortsTurnsWrongFalsely : Prop := fnTurnsDownHeapsortsTurnsRow.holds Try.pinned (OpenSpec.ofChange fnTurnsDownHeapsortsTurnsWrong)

end Rows
end Go.Proofs.Qxb6003262a
