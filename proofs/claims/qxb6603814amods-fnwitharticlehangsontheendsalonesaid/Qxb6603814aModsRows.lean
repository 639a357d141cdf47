/-
  No cell of these rows narrows 'for every input' (looked for: loops, veiled, ifaces, maps, wideKeys, modest, calm, conditions, laid).
  DERIVED. THE GIVEN ROWS OF THIS SEAT. 1 by the template 'for every input the law returns true; each argument reads behind the call as it read before'; 0 by the template 'total and deterministic' (their statements: Qxb6603814aModsTotals.lean).
  GIVEN WITH THE SEED: the statements are not yours to turn. If you find one false, say at which input.
  Laid BY PROGRAM, IN A SANDBOX (cutbox-rows.mjs): the forced cells as the released guide's own fill.sh prints them over the translation cae7690e01bcee13… (all of the seat's roots in one cut). By AI agents, Wed Nov 11 2026. No macro, syntax, notation, axiom, sorry.
-/
import Derived.Test.Qxb6603814aModsChecked
import GoSem.Claim
import GoSem.ClaimJoined
import GoSem.ClaimMapViews
import Derived.JoinedTies
import Derived.KernelRfl
namespace Go.Proofs.Qxb6603814aMods
/- THE CELL 'sum', in the pinned program and in every row, IS THE sha256 OF THE DUMP (.gsa) THAT Qxb6603814aModsProg.lean LOADS. Nothing in Lean hashes anything: it is a label: what it is worth is what the hold of that sum in a sandbox is worth. -/
noncomputable def Trym.pinned : Pinned := { name := "qxb6603814amods", sum := "cae7690e01bcee13d51306fa80fabab8d74d04d367414eeb36325a61d2d3d0d2", checked := Trym.checked }
namespace Rows
def none {H : Type} : Left H := { results := [], args := [] }

/-- 'zzlaws_internal_journal_b1.FnWithArticleHangsOnTheEndsAlone': WHATEVER THE INPUT: true; the input reads as it did. -/
def fnWithArticleHangsOnTheEndsAloneSpec : ChangeSpec := { name := "fnWithArticleHangsOnTheEndsAlone", fn := fun _ => fun
  | [d1, d2] => { results := [.lit (.bool true)], args := [d1, d2] }
  | _ => none }
def fnWithArticleHangsOnTheEndsAloneRow : OpenClaim := { program := "qxb6603814amods", sum := "cae7690e01bcee13d51306fa80fabab8d74d04d367414eeb36325a61d2d3d0d2", func := "example.com/mingli/mingli/zzlaws_internal_journal_b1.FnWithArticleHangsOnTheEndsAlone", spec := "fnWithArticleHangsOnTheEndsAlone", inPlace := ["internal/bytealg.IndexByteString"], make := .lifted ["publicsums"], apart := false }
def FnWithArticleHangsOnTheEndsAloneSaid : Prop := fnWithArticleHangsOnTheEndsAloneRow.holds Trym.pinned (OpenSpec.ofChange fnWithArticleHangsOnTheEndsAloneSpec)

/-- ITS FALSE NEIGHBOUR: 'it returns false'. Refute it at one input. -/
def fnWithArticleHangsOnTheEndsAloneWrong : ChangeSpec := { name := "fnWithArticleHangsOnTheEndsAlone", fn := fun _ => fun
  | [d1, d2] => { results := [.lit (.bool false)], args := [d1, d2] }
  | _ => none }
def FnWithArticleHangsOnTheEndsAloneWrongFalsely : Prop := fnWithArticleHangsOnTheEndsAloneRow.holds Trym.pinned (OpenSpec.ofChange fnWithArticleHangsOnTheEndsAloneWrong)

end Rows
end Go.Proofs.Qxb6603814aMods
