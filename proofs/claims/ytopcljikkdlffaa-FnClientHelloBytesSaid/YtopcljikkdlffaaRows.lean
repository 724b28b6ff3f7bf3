/-
  No cell of these rows narrows 'for every input' (looked for: loops, veiled, ifaces, maps, wideKeys, modest, calm, conditions, laid).
  DERIVED. THE GIVEN ROWS OF THIS SEAT. 8 by the template 'for every input the law returns true; each argument reads behind the call as it read before'; 0 by the template 'total and deterministic' (their statements: YtopcljikkdlffaaTotals.lean).
  GIVEN WITH THE SEED: the statements are not yours to turn. If you find one false, say at which input.
  Laid BY PROGRAM, IN A SANDBOX (cutbox-rows.mjs): the forced cells as the released guide's own fill.sh prints them over the translation a8cbe20d9975cd10… (all of the seat's roots in one cut). By AI agents, Wed Nov 11 2026. No macro, syntax, notation, axiom, sorry.
-/
import Derived.Test.YtopcljikkdlffaaChecked
import GoSem.Claim
import GoSem.ClaimJoined
import GoSem.ClaimMapViews
import Derived.JoinedTies
import Derived.KernelRfl
namespace Go.Proofs.Ytopcljikkdlffaa
/- THE CELL 'sum', in the pinned program and in every row, IS THE sha256 OF THE DUMP (.gsa) THAT YtopcljikkdlffaaProg.lean LOADS. Nothing in Lean hashes anything: it is a label: what it is worth is what the hold of that sum in a sandbox is worth. -/
noncomputable def Try.pinned : Pinned := { name := "ytopcljikkdlffaa", sum := "a8cbe20d9975cd1035591776741042e4377dfb1cfd039f45f7b9724f17a8ab24", checked := Try.checked }
namespace Rows
def none {H : Type} : Left H := { results := [], args := [] }

/-- 'laws.FnServerKeyExchangeMade': WHATEVER THE INPUT: true; the input reads as it did. -/
def fnServerKeyExchangeMadeSpec : ChangeSpec := { name := "fnServerKeyExchangeMade", fn := fun _ => fun
  | [d] => { results := [.lit (.bool true)], args := [d] }
  | _ => none }
def fnServerKeyExchangeMadeRow : OpenClaim := { program := "ytopcljikkdlffaa", sum := "a8cbe20d9975cd1035591776741042e4377dfb1cfd039f45f7b9724f17a8ab24", func := "pub-tlshandshakes/laws.FnServerKeyExchangeMade", spec := "fnServerKeyExchangeMade", unfollowed := true, recurses := true, apart := false }
def FnServerKeyExchangeMadeSaid : Prop := fnServerKeyExchangeMadeRow.holds Try.pinned (OpenSpec.ofChange fnServerKeyExchangeMadeSpec)

/-- ITS FALSE NEIGHBOUR: 'it returns false'. Refute it at one input. -/
def fnServerKeyExchangeMadeWrong : ChangeSpec := { name := "fnServerKeyExchangeMade", fn := fun _ => fun
  | [d] => { results := [.lit (.bool false)], args := [d] }
  | _ => none }
def FnServerKeyExchangeMadeWrongFalsely : Prop := fnServerKeyExchangeMadeRow.holds Try.pinned (OpenSpec.ofChange fnServerKeyExchangeMadeWrong)

/-- 'laws.FnClientKeyExchangeMade': WHATEVER THE INPUT: true; the input reads as it did. -/
def fnClientKeyExchangeMadeSpec : ChangeSpec := { name := "fnClientKeyExchangeMade", fn := fun _ => fun
  | [d] => { results := [.lit (.bool true)], args := [d] }
  | _ => none }
def fnClientKeyExchangeMadeRow : OpenClaim := { program := "ytopcljikkdlffaa", sum := "a8cbe20d9975cd1035591776741042e4377dfb1cfd039f45f7b9724f17a8ab24", func := "pub-tlshandshakes/laws.FnClientKeyExchangeMade", spec := "fnClientKeyExchangeMade", unfollowed := true, recurses := true, apart := false }
def FnClientKeyExchangeMadeSaid : Prop := fnClientKeyExchangeMadeRow.holds Try.pinned (OpenSpec.ofChange fnClientKeyExchangeMadeSpec)

/-- ITS FALSE NEIGHBOUR: 'it returns false'. Refute it at one input. -/
def fnClientKeyExchangeMadeWrong : ChangeSpec := { name := "fnClientKeyExchangeMade", fn := fun _ => fun
  | [d] => { results := [.lit (.bool false)], args := [d] }
  | _ => none }
def FnClientKeyExchangeMadeWrongFalsely : Prop := fnClientKeyExchangeMadeRow.holds Try.pinned (OpenSpec.ofChange fnClientKeyExchangeMadeWrong)

/-- 'laws.FnCertificateMade': WHATEVER THE INPUT: true; the input reads as it did. -/
def fnCertificateMadeSpec : ChangeSpec := { name := "fnCertificateMade", fn := fun _ => fun
  | [d] => { results := [.lit (.bool true)], args := [d] }
  | _ => none }
def fnCertificateMadeRow : OpenClaim := { program := "ytopcljikkdlffaa", sum := "a8cbe20d9975cd1035591776741042e4377dfb1cfd039f45f7b9724f17a8ab24", func := "pub-tlshandshakes/laws.FnCertificateMade", spec := "fnCertificateMade", unfollowed := true, recurses := true, apart := false }
def FnCertificateMadeSaid : Prop := fnCertificateMadeRow.holds Try.pinned (OpenSpec.ofChange fnCertificateMadeSpec)

/-- ITS FALSE NEIGHBOUR: 'it returns false'. Refute it at one input. -/
def fnCertificateMadeWrong : ChangeSpec := { name := "fnCertificateMade", fn := fun _ => fun
  | [d] => { results := [.lit (.bool false)], args := [d] }
  | _ => none }
def FnCertificateMadeWrongFalsely : Prop := fnCertificateMadeRow.holds Try.pinned (OpenSpec.ofChange fnCertificateMadeWrong)

/-- 'laws.FnServerHelloRange': WHATEVER THE INPUT: true; the input reads as it did. -/
def fnServerHelloRangeSpec : ChangeSpec := { name := "fnServerHelloRange", fn := fun _ => fun
  | [d] => { results := [.lit (.bool true)], args := [d] }
  | _ => none }
def fnServerHelloRangeRow : OpenClaim := { program := "ytopcljikkdlffaa", sum := "a8cbe20d9975cd1035591776741042e4377dfb1cfd039f45f7b9724f17a8ab24", func := "pub-tlshandshakes/laws.FnServerHelloRange", spec := "fnServerHelloRange", unfollowed := true, recurses := true, apart := false }
def FnServerHelloRangeSaid : Prop := fnServerHelloRangeRow.holds Try.pinned (OpenSpec.ofChange fnServerHelloRangeSpec)

/-- ITS FALSE NEIGHBOUR: 'it returns false'. Refute it at one input. -/
def fnServerHelloRangeWrong : ChangeSpec := { name := "fnServerHelloRange", fn := fun _ => fun
  | [d] => { results := [.lit (.bool false)], args := [d] }
  | _ => none }
def FnServerHelloRangeWrongFalsely : Prop := fnServerHelloRangeRow.holds Try.pinned (OpenSpec.ofChange fnServerHelloRangeWrong)

/-- 'laws.FnCertificate13Again': WHATEVER THE INPUT: true; the input reads as it did. -/
def fnCertificate13AgainSpec : ChangeSpec := { name := "fnCertificate13Again", fn := fun _ => fun
  | [d] => { results := [.lit (.bool true)], args := [d] }
  | _ => none }
def fnCertificate13AgainRow : OpenClaim := { program := "ytopcljikkdlffaa", sum := "a8cbe20d9975cd1035591776741042e4377dfb1cfd039f45f7b9724f17a8ab24", func := "pub-tlshandshakes/laws.FnCertificate13Again", spec := "fnCertificate13Again", unfollowed := true, recurses := true, apart := false }
def FnCertificate13AgainSaid : Prop := fnCertificate13AgainRow.holds Try.pinned (OpenSpec.ofChange fnCertificate13AgainSpec)

/-- ITS FALSE NEIGHBOUR: 'it returns false'. Refute it at one input. -/
def fnCertificate13AgainWrong : ChangeSpec := { name := "fnCertificate13Again", fn := fun _ => fun
  | [d] => { results := [.lit (.bool false)], args := [d] }
  | _ => none }
def FnCertificate13AgainWrongFalsely : Prop := fnCertificate13AgainRow.holds Try.pinned (OpenSpec.ofChange fnCertificate13AgainWrong)

/-- 'laws.FnClientHelloBytes': WHATEVER THE INPUT: true; the input reads as it did. -/
def fnClientHelloBytesSpec : ChangeSpec := { name := "fnClientHelloBytes", fn := fun _ => fun
  | [d] => { results := [.lit (.bool true)], args := [d] }
  | _ => none }
def fnClientHelloBytesRow : OpenClaim := { program := "ytopcljikkdlffaa", sum := "a8cbe20d9975cd1035591776741042e4377dfb1cfd039f45f7b9724f17a8ab24", func := "pub-tlshandshakes/laws.FnClientHelloBytes", spec := "fnClientHelloBytes", unfollowed := true, recurses := true, apart := false }
def FnClientHelloBytesSaid : Prop := fnClientHelloBytesRow.holds Try.pinned (OpenSpec.ofChange fnClientHelloBytesSpec)

/-- ITS FALSE NEIGHBOUR: 'it returns false'. Refute it at one input. -/
def fnClientHelloBytesWrong : ChangeSpec := { name := "fnClientHelloBytes", fn := fun _ => fun
  | [d] => { results := [.lit (.bool false)], args := [d] }
  | _ => none }
def FnClientHelloBytesWrongFalsely : Prop := fnClientHelloBytesRow.holds Try.pinned (OpenSpec.ofChange fnClientHelloBytesWrong)

/-- 'laws.FnClientHelloRange': WHATEVER THE INPUT: true; the input reads as it did. -/
def fnClientHelloRangeSpec : ChangeSpec := { name := "fnClientHelloRange", fn := fun _ => fun
  | [d] => { results := [.lit (.bool true)], args := [d] }
  | _ => none }
def fnClientHelloRangeRow : OpenClaim := { program := "ytopcljikkdlffaa", sum := "a8cbe20d9975cd1035591776741042e4377dfb1cfd039f45f7b9724f17a8ab24", func := "pub-tlshandshakes/laws.FnClientHelloRange", spec := "fnClientHelloRange", unfollowed := true, recurses := true, apart := false }
def FnClientHelloRangeSaid : Prop := fnClientHelloRangeRow.holds Try.pinned (OpenSpec.ofChange fnClientHelloRangeSpec)

/-- ITS FALSE NEIGHBOUR: 'it returns false'. Refute it at one input. -/
def fnClientHelloRangeWrong : ChangeSpec := { name := "fnClientHelloRange", fn := fun _ => fun
  | [d] => { results := [.lit (.bool false)], args := [d] }
  | _ => none }
def FnClientHelloRangeWrongFalsely : Prop := fnClientHelloRangeRow.holds Try.pinned (OpenSpec.ofChange fnClientHelloRangeWrong)

/-- 'laws.FnServerHelloAgain': WHATEVER THE INPUT: true; the input reads as it did. -/
def fnServerHelloAgainSpec : ChangeSpec := { name := "fnServerHelloAgain", fn := fun _ => fun
  | [d] => { results := [.lit (.bool true)], args := [d] }
  | _ => none }
def fnServerHelloAgainRow : OpenClaim := { program := "ytopcljikkdlffaa", sum := "a8cbe20d9975cd1035591776741042e4377dfb1cfd039f45f7b9724f17a8ab24", func := "pub-tlshandshakes/laws.FnServerHelloAgain", spec := "fnServerHelloAgain", unfollowed := true, recurses := true, apart := false }
def FnServerHelloAgainSaid : Prop := fnServerHelloAgainRow.holds Try.pinned (OpenSpec.ofChange fnServerHelloAgainSpec)

/-- ITS FALSE NEIGHBOUR: 'it returns false'. Refute it at one input. -/
def fnServerHelloAgainWrong : ChangeSpec := { name := "fnServerHelloAgain", fn := fun _ => fun
  | [d] => { results := [.lit (.bool false)], args := [d] }
  | _ => none }
def FnServerHelloAgainWrongFalsely : Prop := fnServerHelloAgainRow.holds Try.pinned (OpenSpec.ofChange fnServerHelloAgainWrong)

/- THE SECOND FORM. 'bulk': how many values and letters a reading holds, each counted each time it is reached (what is shared counts as often as it is met; a slice's spare places count too). A statement '..UptoSaid' is the law's where the arguments, and the package variables that the reading takes, are together of bulk at most 1048576: NARROWER than '..Said'. Prove '..Said' where nothing that the law and all that it calls make is longer than what came in: it says more and counts as full. Else prove '..UptoSaid'. A law counts once. -/
mutual
def uptoBulk {H : Type} : DataW H → Nat
  | .lit (.string bytes) => bytes.length + 1
  | .lit _ => 1
  | .nil => 1
  | .ptr d => uptoBulk d + 1
  | .slice elems spare => uptoBulkAll elems + uptoBulkAll spare + 1
  | .agg parts => uptoBulkAll parts + 1
  | .iface _ d => uptoBulk d + 1
  | .map entries => uptoBulkEntries entries + 1
  | .held _ => 1
def uptoBulkAll {H : Type} : List (DataW H) → Nat
  | [] => 0
  | d :: r => uptoBulk d + uptoBulkAll r
def uptoBulkEntries {H : Type} : List (Lit × DataW H) → Nat
  | [] => 0
  | x :: r => uptoBulkEntry x + uptoBulkEntries r
def uptoBulkEntry {H : Type} : Lit × DataW H → Nat
  | (.string bytes, d) => bytes.length + uptoBulk d + 1
  | (_, d) => uptoBulk d + 1
 end
def uptoSmall : (H : Type) → List (DataW H) → Bool := fun _ ds => decide (uptoBulkAll ds ≤ 1048576)
def OpenSpec.upto (s : _root_.Go.ChangeSpec) : _root_.Go.OpenSpec := { _root_.Go.OpenSpec.ofChange s with cond := some uptoSmall }

/-- 'laws.FnServerKeyExchangeMade', WHERE WHAT IT READS IS OF BULK AT MOST 1048576: true; the input reads as it did. -/
def fnServerKeyExchangeMadeUptoRow : OpenClaim := { program := "ytopcljikkdlffaa", sum := "a8cbe20d9975cd1035591776741042e4377dfb1cfd039f45f7b9724f17a8ab24", func := "pub-tlshandshakes/laws.FnServerKeyExchangeMade", spec := "fnServerKeyExchangeMade", unfollowed := true, recurses := true, apart := false, narrowed := true }
def FnServerKeyExchangeMadeUptoSaid : Prop := fnServerKeyExchangeMadeUptoRow.holds Try.pinned (OpenSpec.upto fnServerKeyExchangeMadeSpec)

/-- 'laws.FnClientKeyExchangeMade', WHERE WHAT IT READS IS OF BULK AT MOST 1048576: true; the input reads as it did. -/
def fnClientKeyExchangeMadeUptoRow : OpenClaim := { program := "ytopcljikkdlffaa", sum := "a8cbe20d9975cd1035591776741042e4377dfb1cfd039f45f7b9724f17a8ab24", func := "pub-tlshandshakes/laws.FnClientKeyExchangeMade", spec := "fnClientKeyExchangeMade", unfollowed := true, recurses := true, apart := false, narrowed := true }
def FnClientKeyExchangeMadeUptoSaid : Prop := fnClientKeyExchangeMadeUptoRow.holds Try.pinned (OpenSpec.upto fnClientKeyExchangeMadeSpec)

/-- 'laws.FnCertificateMade', WHERE WHAT IT READS IS OF BULK AT MOST 1048576: true; the input reads as it did. -/
def fnCertificateMadeUptoRow : OpenClaim := { program := "ytopcljikkdlffaa", sum := "a8cbe20d9975cd1035591776741042e4377dfb1cfd039f45f7b9724f17a8ab24", func := "pub-tlshandshakes/laws.FnCertificateMade", spec := "fnCertificateMade", unfollowed := true, recurses := true, apart := false, narrowed := true }
def FnCertificateMadeUptoSaid : Prop := fnCertificateMadeUptoRow.holds Try.pinned (OpenSpec.upto fnCertificateMadeSpec)

/-- 'laws.FnServerHelloRange', WHERE WHAT IT READS IS OF BULK AT MOST 1048576: true; the input reads as it did. -/
def fnServerHelloRangeUptoRow : OpenClaim := { program := "ytopcljikkdlffaa", sum := "a8cbe20d9975cd1035591776741042e4377dfb1cfd039f45f7b9724f17a8ab24", func := "pub-tlshandshakes/laws.FnServerHelloRange", spec := "fnServerHelloRange", unfollowed := true, recurses := true, apart := false, narrowed := true }
def FnServerHelloRangeUptoSaid : Prop := fnServerHelloRangeUptoRow.holds Try.pinned (OpenSpec.upto fnServerHelloRangeSpec)

/-- 'laws.FnCertificate13Again', WHERE WHAT IT READS IS OF BULK AT MOST 1048576: true; the input reads as it did. -/
def fnCertificate13AgainUptoRow : OpenClaim := { program := "ytopcljikkdlffaa", sum := "a8cbe20d9975cd1035591776741042e4377dfb1cfd039f45f7b9724f17a8ab24", func := "pub-tlshandshakes/laws.FnCertificate13Again", spec := "fnCertificate13Again", unfollowed := true, recurses := true, apart := false, narrowed := true }
def FnCertificate13AgainUptoSaid : Prop := fnCertificate13AgainUptoRow.holds Try.pinned (OpenSpec.upto fnCertificate13AgainSpec)

/-- 'laws.FnClientHelloBytes', WHERE WHAT IT READS IS OF BULK AT MOST 1048576: true; the input reads as it did. -/
def fnClientHelloBytesUptoRow : OpenClaim := { program := "ytopcljikkdlffaa", sum := "a8cbe20d9975cd1035591776741042e4377dfb1cfd039f45f7b9724f17a8ab24", func := "pub-tlshandshakes/laws.FnClientHelloBytes", spec := "fnClientHelloBytes", unfollowed := true, recurses := true, apart := false, narrowed := true }
def FnClientHelloBytesUptoSaid : Prop := fnClientHelloBytesUptoRow.holds Try.pinned (OpenSpec.upto fnClientHelloBytesSpec)

/-- 'laws.FnClientHelloRange', WHERE WHAT IT READS IS OF BULK AT MOST 1048576: true; the input reads as it did. -/
def fnClientHelloRangeUptoRow : OpenClaim := { program := "ytopcljikkdlffaa", sum := "a8cbe20d9975cd1035591776741042e4377dfb1cfd039f45f7b9724f17a8ab24", func := "pub-tlshandshakes/laws.FnClientHelloRange", spec := "fnClientHelloRange", unfollowed := true, recurses := true, apart := false, narrowed := true }
def FnClientHelloRangeUptoSaid : Prop := fnClientHelloRangeUptoRow.holds Try.pinned (OpenSpec.upto fnClientHelloRangeSpec)

/-- 'laws.FnServerHelloAgain', WHERE WHAT IT READS IS OF BULK AT MOST 1048576: true; the input reads as it did. -/
def fnServerHelloAgainUptoRow : OpenClaim := { program := "ytopcljikkdlffaa", sum := "a8cbe20d9975cd1035591776741042e4377dfb1cfd039f45f7b9724f17a8ab24", func := "pub-tlshandshakes/laws.FnServerHelloAgain", spec := "fnServerHelloAgain", unfollowed := true, recurses := true, apart := false, narrowed := true }
def FnServerHelloAgainUptoSaid : Prop := fnServerHelloAgainUptoRow.holds Try.pinned (OpenSpec.upto fnServerHelloAgainSpec)

end Rows
end Go.Proofs.Ytopcljikkdlffaa
