/-
  No cell of these rows narrows 'for every input' (looked for: loops, veiled, ifaces, maps, wideKeys, modest, calm, conditions, laid).
  DERIVED. THE GIVEN ROWS OF THIS SEAT. 12 by the template 'for every input the law returns true; each argument reads behind the call as it read before'; 0 by the template 'total and deterministic' (their statements: YtlnfcjaempojgaaTotals.lean).
  GIVEN WITH THE SEED: the statements are not yours to turn. If you find one false, say at which input.
  Laid BY PROGRAM, IN A SANDBOX (cutbox-rows.mjs): the forced cells as the released guide's own fill.sh prints them over the translation f6b0711c1a7ab062… (all of the seat's roots in one cut). By AI agents, Wed Nov 11 2026. No macro, syntax, notation, axiom, sorry.
-/
import Derived.Test.YtlnfcjaempojgaaChecked
import GoSem.Claim
import GoSem.ClaimJoined
import GoSem.ClaimMapViews
import Derived.JoinedTies
import Derived.KernelRfl
namespace Go.Proofs.Ytlnfcjaempojgaa
/- THE CELL 'sum', in the pinned program and in every row, IS THE sha256 OF THE DUMP (.gsa) THAT YtlnfcjaempojgaaProg.lean LOADS. Nothing in Lean hashes anything: it is a label: what it is worth is what the hold of that sum in a sandbox is worth. -/
noncomputable def Try.pinned : Pinned := { name := "ytlnfcjaempojgaa", sum := "f6b0711c1a7ab0620f289eb380d52268b80e59f0399b1363c043016ca80e5fed", checked := Try.checked }
namespace Rows
def none {H : Type} : Left H := { results := [], args := [] }

/-- 'laws.FnClip': WHATEVER THE INPUT: true; the input reads as it did. -/
def fnClipSpec : ChangeSpec := { name := "fnClip", fn := fun _ => fun
  | [d1, d2, d3, d4, d5, d6, d7, d8, d9] => { results := [.lit (.bool true)], args := [d1, d2, d3, d4, d5, d6, d7, d8, d9] }
  | _ => none }
def fnClipRow : OpenClaim := { program := "ytlnfcjaempojgaa", sum := "f6b0711c1a7ab0620f289eb380d52268b80e59f0399b1363c043016ca80e5fed", func := "drawnimages/laws.FnClip", spec := "fnClip", unfollowed := true, recurses := true, apart := false }
def FnClipSaid : Prop := fnClipRow.holds Try.pinned (OpenSpec.ofChange fnClipSpec)

/-- ITS FALSE NEIGHBOUR: 'it returns false'. Refute it at one input. -/
def fnClipWrong : ChangeSpec := { name := "fnClip", fn := fun _ => fun
  | [d1, d2, d3, d4, d5, d6, d7, d8, d9] => { results := [.lit (.bool false)], args := [d1, d2, d3, d4, d5, d6, d7, d8, d9] }
  | _ => none }
def FnClipWrongFalsely : Prop := fnClipRow.holds Try.pinned (OpenSpec.ofChange fnClipWrong)

/-- 'laws.FnGray': WHATEVER THE INPUT: true; the input reads as it did. -/
def fnGraySpec : ChangeSpec := { name := "fnGray", fn := fun _ => fun
  | [d1, d2, d3, d4, d5] => { results := [.lit (.bool true)], args := [d1, d2, d3, d4, d5] }
  | _ => none }
def fnGrayRow : OpenClaim := { program := "ytlnfcjaempojgaa", sum := "f6b0711c1a7ab0620f289eb380d52268b80e59f0399b1363c043016ca80e5fed", func := "drawnimages/laws.FnGray", spec := "fnGray", unfollowed := true, recurses := true, apart := false }
def FnGraySaid : Prop := fnGrayRow.holds Try.pinned (OpenSpec.ofChange fnGraySpec)

/-- ITS FALSE NEIGHBOUR: 'it returns false'. Refute it at one input. -/
def fnGrayWrong : ChangeSpec := { name := "fnGray", fn := fun _ => fun
  | [d1, d2, d3, d4, d5] => { results := [.lit (.bool false)], args := [d1, d2, d3, d4, d5] }
  | _ => none }
def FnGrayWrongFalsely : Prop := fnGrayRow.holds Try.pinned (OpenSpec.ofChange fnGrayWrong)

/-- 'laws.FnCMYK': WHATEVER THE INPUT: true; the input reads as it did. -/
def fnCMYKSpec : ChangeSpec := { name := "fnCMYK", fn := fun _ => fun
  | [d1, d2, d3, d4, d5] => { results := [.lit (.bool true)], args := [d1, d2, d3, d4, d5] }
  | _ => none }
def fnCMYKRow : OpenClaim := { program := "ytlnfcjaempojgaa", sum := "f6b0711c1a7ab0620f289eb380d52268b80e59f0399b1363c043016ca80e5fed", func := "drawnimages/laws.FnCMYK", spec := "fnCMYK", unfollowed := true, recurses := true, apart := false }
def FnCMYKSaid : Prop := fnCMYKRow.holds Try.pinned (OpenSpec.ofChange fnCMYKSpec)

/-- ITS FALSE NEIGHBOUR: 'it returns false'. Refute it at one input. -/
def fnCMYKWrong : ChangeSpec := { name := "fnCMYK", fn := fun _ => fun
  | [d1, d2, d3, d4, d5] => { results := [.lit (.bool false)], args := [d1, d2, d3, d4, d5] }
  | _ => none }
def FnCMYKWrongFalsely : Prop := fnCMYKRow.holds Try.pinned (OpenSpec.ofChange fnCMYKWrong)

/-- 'laws.FnNRGBASrc': WHATEVER THE INPUT: true; the input reads as it did. -/
def fnNRGBASrcSpec : ChangeSpec := { name := "fnNRGBASrc", fn := fun _ => fun
  | [d1, d2, d3, d4, d5] => { results := [.lit (.bool true)], args := [d1, d2, d3, d4, d5] }
  | _ => none }
def fnNRGBASrcRow : OpenClaim := { program := "ytlnfcjaempojgaa", sum := "f6b0711c1a7ab0620f289eb380d52268b80e59f0399b1363c043016ca80e5fed", func := "drawnimages/laws.FnNRGBASrc", spec := "fnNRGBASrc", unfollowed := true, recurses := true, apart := false }
def FnNRGBASrcSaid : Prop := fnNRGBASrcRow.holds Try.pinned (OpenSpec.ofChange fnNRGBASrcSpec)

/-- ITS FALSE NEIGHBOUR: 'it returns false'. Refute it at one input. -/
def fnNRGBASrcWrong : ChangeSpec := { name := "fnNRGBASrc", fn := fun _ => fun
  | [d1, d2, d3, d4, d5] => { results := [.lit (.bool false)], args := [d1, d2, d3, d4, d5] }
  | _ => none }
def FnNRGBASrcWrongFalsely : Prop := fnNRGBASrcRow.holds Try.pinned (OpenSpec.ofChange fnNRGBASrcWrong)

/-- 'laws.FnCopySrc': WHATEVER THE INPUT: true; the input reads as it did. -/
def fnCopySrcSpec : ChangeSpec := { name := "fnCopySrc", fn := fun _ => fun
  | [d1, d2, d3, d4, d5] => { results := [.lit (.bool true)], args := [d1, d2, d3, d4, d5] }
  | _ => none }
def fnCopySrcRow : OpenClaim := { program := "ytlnfcjaempojgaa", sum := "f6b0711c1a7ab0620f289eb380d52268b80e59f0399b1363c043016ca80e5fed", func := "drawnimages/laws.FnCopySrc", spec := "fnCopySrc", unfollowed := true, recurses := true, apart := false }
def FnCopySrcSaid : Prop := fnCopySrcRow.holds Try.pinned (OpenSpec.ofChange fnCopySrcSpec)

/-- ITS FALSE NEIGHBOUR: 'it returns false'. Refute it at one input. -/
def fnCopySrcWrong : ChangeSpec := { name := "fnCopySrc", fn := fun _ => fun
  | [d1, d2, d3, d4, d5] => { results := [.lit (.bool false)], args := [d1, d2, d3, d4, d5] }
  | _ => none }
def FnCopySrcWrongFalsely : Prop := fnCopySrcRow.holds Try.pinned (OpenSpec.ofChange fnCopySrcWrong)

/-- 'laws.FnNRGBAOver': WHATEVER THE INPUT: true; the input reads as it did. -/
def fnNRGBAOverSpec : ChangeSpec := { name := "fnNRGBAOver", fn := fun _ => fun
  | [d1, d2, d3, d4, d5] => { results := [.lit (.bool true)], args := [d1, d2, d3, d4, d5] }
  | _ => none }
def fnNRGBAOverRow : OpenClaim := { program := "ytlnfcjaempojgaa", sum := "f6b0711c1a7ab0620f289eb380d52268b80e59f0399b1363c043016ca80e5fed", func := "drawnimages/laws.FnNRGBAOver", spec := "fnNRGBAOver", unfollowed := true, recurses := true, apart := false }
def FnNRGBAOverSaid : Prop := fnNRGBAOverRow.holds Try.pinned (OpenSpec.ofChange fnNRGBAOverSpec)

/-- ITS FALSE NEIGHBOUR: 'it returns false'. Refute it at one input. -/
def fnNRGBAOverWrong : ChangeSpec := { name := "fnNRGBAOver", fn := fun _ => fun
  | [d1, d2, d3, d4, d5] => { results := [.lit (.bool false)], args := [d1, d2, d3, d4, d5] }
  | _ => none }
def FnNRGBAOverWrongFalsely : Prop := fnNRGBAOverRow.holds Try.pinned (OpenSpec.ofChange fnNRGBAOverWrong)

/-- 'laws.FnCopyOver': WHATEVER THE INPUT: true; the input reads as it did. -/
def fnCopyOverSpec : ChangeSpec := { name := "fnCopyOver", fn := fun _ => fun
  | [d1, d2, d3, d4, d5] => { results := [.lit (.bool true)], args := [d1, d2, d3, d4, d5] }
  | _ => none }
def fnCopyOverRow : OpenClaim := { program := "ytlnfcjaempojgaa", sum := "f6b0711c1a7ab0620f289eb380d52268b80e59f0399b1363c043016ca80e5fed", func := "drawnimages/laws.FnCopyOver", spec := "fnCopyOver", unfollowed := true, recurses := true, apart := false }
def FnCopyOverSaid : Prop := fnCopyOverRow.holds Try.pinned (OpenSpec.ofChange fnCopyOverSpec)

/-- ITS FALSE NEIGHBOUR: 'it returns false'. Refute it at one input. -/
def fnCopyOverWrong : ChangeSpec := { name := "fnCopyOver", fn := fun _ => fun
  | [d1, d2, d3, d4, d5] => { results := [.lit (.bool false)], args := [d1, d2, d3, d4, d5] }
  | _ => none }
def FnCopyOverWrongFalsely : Prop := fnCopyOverRow.holds Try.pinned (OpenSpec.ofChange fnCopyOverWrong)

/-- 'laws.FnGrayMaskOver': WHATEVER THE INPUT: true; the input reads as it did. -/
def fnGrayMaskOverSpec : ChangeSpec := { name := "fnGrayMaskOver", fn := fun _ => fun
  | [d1, d2, d3, d4, d5, d6, d7, d8] => { results := [.lit (.bool true)], args := [d1, d2, d3, d4, d5, d6, d7, d8] }
  | _ => none }
def fnGrayMaskOverRow : OpenClaim := { program := "ytlnfcjaempojgaa", sum := "f6b0711c1a7ab0620f289eb380d52268b80e59f0399b1363c043016ca80e5fed", func := "drawnimages/laws.FnGrayMaskOver", spec := "fnGrayMaskOver", unfollowed := true, recurses := true, apart := false }
def FnGrayMaskOverSaid : Prop := fnGrayMaskOverRow.holds Try.pinned (OpenSpec.ofChange fnGrayMaskOverSpec)

/-- ITS FALSE NEIGHBOUR: 'it returns false'. Refute it at one input. -/
def fnGrayMaskOverWrong : ChangeSpec := { name := "fnGrayMaskOver", fn := fun _ => fun
  | [d1, d2, d3, d4, d5, d6, d7, d8] => { results := [.lit (.bool false)], args := [d1, d2, d3, d4, d5, d6, d7, d8] }
  | _ => none }
def FnGrayMaskOverWrongFalsely : Prop := fnGrayMaskOverRow.holds Try.pinned (OpenSpec.ofChange fnGrayMaskOverWrong)

/-- 'laws.FnRGBAMaskOver': WHATEVER THE INPUT: true; the input reads as it did. -/
def fnRGBAMaskOverSpec : ChangeSpec := { name := "fnRGBAMaskOver", fn := fun _ => fun
  | [d1, d2, d3, d4, d5, d6, d7, d8] => { results := [.lit (.bool true)], args := [d1, d2, d3, d4, d5, d6, d7, d8] }
  | _ => none }
def fnRGBAMaskOverRow : OpenClaim := { program := "ytlnfcjaempojgaa", sum := "f6b0711c1a7ab0620f289eb380d52268b80e59f0399b1363c043016ca80e5fed", func := "drawnimages/laws.FnRGBAMaskOver", spec := "fnRGBAMaskOver", unfollowed := true, recurses := true, apart := false }
def FnRGBAMaskOverSaid : Prop := fnRGBAMaskOverRow.holds Try.pinned (OpenSpec.ofChange fnRGBAMaskOverSpec)

/-- ITS FALSE NEIGHBOUR: 'it returns false'. Refute it at one input. -/
def fnRGBAMaskOverWrong : ChangeSpec := { name := "fnRGBAMaskOver", fn := fun _ => fun
  | [d1, d2, d3, d4, d5, d6, d7, d8] => { results := [.lit (.bool false)], args := [d1, d2, d3, d4, d5, d6, d7, d8] }
  | _ => none }
def FnRGBAMaskOverWrongFalsely : Prop := fnRGBAMaskOverRow.holds Try.pinned (OpenSpec.ofChange fnRGBAMaskOverWrong)

/-- 'laws.FnFillOver': WHATEVER THE INPUT: true; the input reads as it did. -/
def fnFillOverSpec : ChangeSpec := { name := "fnFillOver", fn := fun _ => fun
  | [d1, d2, d3] => { results := [.lit (.bool true)], args := [d1, d2, d3] }
  | _ => none }
def fnFillOverRow : OpenClaim := { program := "ytlnfcjaempojgaa", sum := "f6b0711c1a7ab0620f289eb380d52268b80e59f0399b1363c043016ca80e5fed", func := "drawnimages/laws.FnFillOver", spec := "fnFillOver", unfollowed := true, recurses := true, apart := false }
def FnFillOverSaid : Prop := fnFillOverRow.holds Try.pinned (OpenSpec.ofChange fnFillOverSpec)

/-- ITS FALSE NEIGHBOUR: 'it returns false'. Refute it at one input. -/
def fnFillOverWrong : ChangeSpec := { name := "fnFillOver", fn := fun _ => fun
  | [d1, d2, d3] => { results := [.lit (.bool false)], args := [d1, d2, d3] }
  | _ => none }
def FnFillOverWrongFalsely : Prop := fnFillOverRow.holds Try.pinned (OpenSpec.ofChange fnFillOverWrong)

/-- 'laws.FnFillSrc': WHATEVER THE INPUT: true; the input reads as it did. -/
def fnFillSrcSpec : ChangeSpec := { name := "fnFillSrc", fn := fun _ => fun
  | [d1, d2, d3] => { results := [.lit (.bool true)], args := [d1, d2, d3] }
  | _ => none }
def fnFillSrcRow : OpenClaim := { program := "ytlnfcjaempojgaa", sum := "f6b0711c1a7ab0620f289eb380d52268b80e59f0399b1363c043016ca80e5fed", func := "drawnimages/laws.FnFillSrc", spec := "fnFillSrc", unfollowed := true, recurses := true, apart := false }
def FnFillSrcSaid : Prop := fnFillSrcRow.holds Try.pinned (OpenSpec.ofChange fnFillSrcSpec)

/-- ITS FALSE NEIGHBOUR: 'it returns false'. Refute it at one input. -/
def fnFillSrcWrong : ChangeSpec := { name := "fnFillSrc", fn := fun _ => fun
  | [d1, d2, d3] => { results := [.lit (.bool false)], args := [d1, d2, d3] }
  | _ => none }
def FnFillSrcWrongFalsely : Prop := fnFillSrcRow.holds Try.pinned (OpenSpec.ofChange fnFillSrcWrong)

/-- 'laws.FnGlyphOver': WHATEVER THE INPUT: true; the input reads as it did. -/
def fnGlyphOverSpec : ChangeSpec := { name := "fnGlyphOver", fn := fun _ => fun
  | [d1, d2, d3, d4, d5, d6] => { results := [.lit (.bool true)], args := [d1, d2, d3, d4, d5, d6] }
  | _ => none }
def fnGlyphOverRow : OpenClaim := { program := "ytlnfcjaempojgaa", sum := "f6b0711c1a7ab0620f289eb380d52268b80e59f0399b1363c043016ca80e5fed", func := "drawnimages/laws.FnGlyphOver", spec := "fnGlyphOver", unfollowed := true, recurses := true, apart := false }
def FnGlyphOverSaid : Prop := fnGlyphOverRow.holds Try.pinned (OpenSpec.ofChange fnGlyphOverSpec)

/-- ITS FALSE NEIGHBOUR: 'it returns false'. Refute it at one input. -/
def fnGlyphOverWrong : ChangeSpec := { name := "fnGlyphOver", fn := fun _ => fun
  | [d1, d2, d3, d4, d5, d6] => { results := [.lit (.bool false)], args := [d1, d2, d3, d4, d5, d6] }
  | _ => none }
def FnGlyphOverWrongFalsely : Prop := fnGlyphOverRow.holds Try.pinned (OpenSpec.ofChange fnGlyphOverWrong)

/- THE SECOND FORM. 'bulk': how many values and letters a reading holds, each counted each time it is reached (what is shared counts as often as it is met; a slice's spare places count too). A statement '..UptoSaid' is the law's where the arguments, and the package variables that the reading takes, are together of bulk at most 1048576: NARROWER than '..Said'. Prove '..Said' where nothing that the law and all that it calls make is longer than what came in: it says more and counts as full. Else prove '..UptoSaid'. A law counts once. -/
mutual
def uptoBulk {H : Type} : DataW H → Nat
  | .lit (.string bytes) => bytes.length + 1
  | .lit _ => 1
  | .nil => 1
  | .ptr d => uptoBulk d + 1
  | .slice elems spare => uptoBulkAll elems + uptoBulkAll spare + 1
  | .agg parts => uptoBulkAll parts + 1
  | .iface _ d => uptoBulk d + 1
  | .map entries => uptoBulkEntries entries + 1
  | .held _ => 1
def uptoBulkAll {H : Type} : List (DataW H) → Nat
  | [] => 0
  | d :: r => uptoBulk d + uptoBulkAll r
def uptoBulkEntries {H : Type} : List (Lit × DataW H) → Nat
  | [] => 0
  | x :: r => uptoBulkEntry x + uptoBulkEntries r
def uptoBulkEntry {H : Type} : Lit × DataW H → Nat
  | (.string bytes, d) => bytes.length + uptoBulk d + 1
  | (_, d) => uptoBulk d + 1
 end
def uptoSmall : (H : Type) → List (DataW H) → Bool := fun _ ds => decide (uptoBulkAll ds ≤ 1048576)
def OpenSpec.upto (s : _root_.Go.ChangeSpec) : _root_.Go.OpenSpec := { _root_.Go.OpenSpec.ofChange s with cond := some uptoSmall }

/-- 'laws.FnClip', WHERE WHAT IT READS IS OF BULK AT MOST 1048576: true; the input reads as it did. -/
def fnClipUptoRow : OpenClaim := { program := "ytlnfcjaempojgaa", sum := "f6b0711c1a7ab0620f289eb380d52268b80e59f0399b1363c043016ca80e5fed", func := "drawnimages/laws.FnClip", spec := "fnClip", unfollowed := true, recurses := true, apart := false, narrowed := true }
def FnClipUptoSaid : Prop := fnClipUptoRow.holds Try.pinned (OpenSpec.upto fnClipSpec)

/-- 'laws.FnGray', WHERE WHAT IT READS IS OF BULK AT MOST 1048576: true; the input reads as it did. -/
def fnGrayUptoRow : OpenClaim := { program := "ytlnfcjaempojgaa", sum := "f6b0711c1a7ab0620f289eb380d52268b80e59f0399b1363c043016ca80e5fed", func := "drawnimages/laws.FnGray", spec := "fnGray", unfollowed := true, recurses := true, apart := false, narrowed := true }
def FnGrayUptoSaid : Prop := fnGrayUptoRow.holds Try.pinned (OpenSpec.upto fnGraySpec)

/-- 'laws.FnCMYK', WHERE WHAT IT READS IS OF BULK AT MOST 1048576: true; the input reads as it did. -/
def fnCMYKUptoRow : OpenClaim := { program := "ytlnfcjaempojgaa", sum := "f6b0711c1a7ab0620f289eb380d52268b80e59f0399b1363c043016ca80e5fed", func := "drawnimages/laws.FnCMYK", spec := "fnCMYK", unfollowed := true, recurses := true, apart := false, narrowed := true }
def FnCMYKUptoSaid : Prop := fnCMYKUptoRow.holds Try.pinned (OpenSpec.upto fnCMYKSpec)

/-- 'laws.FnNRGBASrc', WHERE WHAT IT READS IS OF BULK AT MOST 1048576: true; the input reads as it did. -/
def fnNRGBASrcUptoRow : OpenClaim := { program := "ytlnfcjaempojgaa", sum := "f6b0711c1a7ab0620f289eb380d52268b80e59f0399b1363c043016ca80e5fed", func := "drawnimages/laws.FnNRGBASrc", spec := "fnNRGBASrc", unfollowed := true, recurses := true, apart := false, narrowed := true }
def FnNRGBASrcUptoSaid : Prop := fnNRGBASrcUptoRow.holds Try.pinned (OpenSpec.upto fnNRGBASrcSpec)

/-- 'laws.FnCopySrc', WHERE WHAT IT READS IS OF BULK AT MOST 1048576: true; the input reads as it did. -/
def fnCopySrcUptoRow : OpenClaim := { program := "ytlnfcjaempojgaa", sum := "f6b0711c1a7ab0620f289eb380d52268b80e59f0399b1363c043016ca80e5fed", func := "drawnimages/laws.FnCopySrc", spec := "fnCopySrc", unfollowed := true, recurses := true, apart := false, narrowed := true }
def FnCopySrcUptoSaid : Prop := fnCopySrcUptoRow.holds Try.pinned (OpenSpec.upto fnCopySrcSpec)

/-- 'laws.FnNRGBAOver', WHERE WHAT IT READS IS OF BULK AT MOST 1048576: true; the input reads as it did. -/
def fnNRGBAOverUptoRow : OpenClaim := { program := "ytlnfcjaempojgaa", sum := "f6b0711c1a7ab0620f289eb380d52268b80e59f0399b1363c043016ca80e5fed", func := "drawnimages/laws.FnNRGBAOver", spec := "fnNRGBAOver", unfollowed := true, recurses := true, apart := false, narrowed := true }
def FnNRGBAOverUptoSaid : Prop := fnNRGBAOverUptoRow.holds Try.pinned (OpenSpec.upto fnNRGBAOverSpec)

/-- 'laws.FnCopyOver', WHERE WHAT IT READS IS OF BULK AT MOST 1048576: true; the input reads as it did. -/
def fnCopyOverUptoRow : OpenClaim := { program := "ytlnfcjaempojgaa", sum := "f6b0711c1a7ab0620f289eb380d52268b80e59f0399b1363c043016ca80e5fed", func := "drawnimages/laws.FnCopyOver", spec := "fnCopyOver", unfollowed := true, recurses := true, apart := false, narrowed := true }
def FnCopyOverUptoSaid : Prop := fnCopyOverUptoRow.holds Try.pinned (OpenSpec.upto fnCopyOverSpec)

/-- 'laws.FnGrayMaskOver', WHERE WHAT IT READS IS OF BULK AT MOST 1048576: true; the input reads as it did. -/
def fnGrayMaskOverUptoRow : OpenClaim := { program := "ytlnfcjaempojgaa", sum := "f6b0711c1a7ab0620f289eb380d52268b80e59f0399b1363c043016ca80e5fed", func := "drawnimages/laws.FnGrayMaskOver", spec := "fnGrayMaskOver", unfollowed := true, recurses := true, apart := false, narrowed := true }
def FnGrayMaskOverUptoSaid : Prop := fnGrayMaskOverUptoRow.holds Try.pinned (OpenSpec.upto fnGrayMaskOverSpec)

/-- 'laws.FnRGBAMaskOver', WHERE WHAT IT READS IS OF BULK AT MOST 1048576: true; the input reads as it did. -/
def fnRGBAMaskOverUptoRow : OpenClaim := { program := "ytlnfcjaempojgaa", sum := "f6b0711c1a7ab0620f289eb380d52268b80e59f0399b1363c043016ca80e5fed", func := "drawnimages/laws.FnRGBAMaskOver", spec := "fnRGBAMaskOver", unfollowed := true, recurses := true, apart := false, narrowed := true }
def FnRGBAMaskOverUptoSaid : Prop := fnRGBAMaskOverUptoRow.holds Try.pinned (OpenSpec.upto fnRGBAMaskOverSpec)

/-- 'laws.FnFillOver', WHERE WHAT IT READS IS OF BULK AT MOST 1048576: true; the input reads as it did. -/
def fnFillOverUptoRow : OpenClaim := { program := "ytlnfcjaempojgaa", sum := "f6b0711c1a7ab0620f289eb380d52268b80e59f0399b1363c043016ca80e5fed", func := "drawnimages/laws.FnFillOver", spec := "fnFillOver", unfollowed := true, recurses := true, apart := false, narrowed := true }
def FnFillOverUptoSaid : Prop := fnFillOverUptoRow.holds Try.pinned (OpenSpec.upto fnFillOverSpec)

/-- 'laws.FnFillSrc', WHERE WHAT IT READS IS OF BULK AT MOST 1048576: true; the input reads as it did. -/
def fnFillSrcUptoRow : OpenClaim := { program := "ytlnfcjaempojgaa", sum := "f6b0711c1a7ab0620f289eb380d52268b80e59f0399b1363c043016ca80e5fed", func := "drawnimages/laws.FnFillSrc", spec := "fnFillSrc", unfollowed := true, recurses := true, apart := false, narrowed := true }
def FnFillSrcUptoSaid : Prop := fnFillSrcUptoRow.holds Try.pinned (OpenSpec.upto fnFillSrcSpec)

/-- 'laws.FnGlyphOver', WHERE WHAT IT READS IS OF BULK AT MOST 1048576: true; the input reads as it did. -/
def fnGlyphOverUptoRow : OpenClaim := { program := "ytlnfcjaempojgaa", sum := "f6b0711c1a7ab0620f289eb380d52268b80e59f0399b1363c043016ca80e5fed", func := "drawnimages/laws.FnGlyphOver", spec := "fnGlyphOver", unfollowed := true, recurses := true, apart := false, narrowed := true }
def FnGlyphOverUptoSaid : Prop := fnGlyphOverUptoRow.holds Try.pinned (OpenSpec.upto fnGlyphOverSpec)

end Rows
end Go.Proofs.Ytlnfcjaempojgaa
