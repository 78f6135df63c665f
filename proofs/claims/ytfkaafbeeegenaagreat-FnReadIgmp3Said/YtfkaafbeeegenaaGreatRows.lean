/-
  No cell of these rows narrows 'for every input' (looked for: loops, veiled, ifaces, maps, wideKeys, modest, calm, conditions, laid).
  DERIVED. THE GIVEN ROWS OF THIS SEAT. 22 by the template 'for every input the law returns true; each argument reads behind the call as it read before'; 0 by the template 'total and deterministic' (their statements: YtfkaafbeeegenaaGreatTotals.lean).
  GIVEN WITH THE SEED: the statements are not yours to turn. If you find one false, say at which input.
  Laid BY PROGRAM, IN A SANDBOX (cutbox-rows.mjs): the forced cells as the released guide's own fill.sh prints them over the translation 115e9eb51f564217… (all of the seat's roots in one cut). By AI agents, Wed Nov 11 2026. No macro, syntax, notation, axiom, sorry.
-/
import Derived.Test.YtfkaafbeeegenaaGreatChecked
import GoSem.Claim
import GoSem.ClaimJoined
import GoSem.ClaimMapViews
import Derived.JoinedTies
import Derived.KernelRfl
namespace Go.Proofs.YtfkaafbeeegenaaGreat
/- THE CELL 'sum', in the pinned program and in every row, IS THE sha256 OF THE DUMP (.gsa) THAT YtfkaafbeeegenaaGreatProg.lean LOADS. Nothing in Lean hashes anything: it is a label: what it is worth is what the hold of that sum in a sandbox is worth. -/
noncomputable def Tryz.pinned : Pinned := { name := "ytfkaafbeeegenaagreat", sum := "115e9eb51f564217d3c919afe14f3abf096423cb3f3d220125b49746e5b318f3", checked := Tryz.checked }
namespace Rows
def none {H : Type} : Left H := { results := [], args := [] }

/-- 'laws.FnReadAh': WHATEVER THE INPUT: true; the input reads as it did. -/
def fnReadAhSpec : ChangeSpec := { name := "fnReadAh", fn := fun _ => fun
  | [d] => { results := [.lit (.bool true)], args := [d] }
  | _ => none }
def fnReadAhRow : OpenClaim := { program := "ytfkaafbeeegenaagreat", sum := "115e9eb51f564217d3c919afe14f3abf096423cb3f3d220125b49746e5b318f3", func := "loop.example/pub-g03268/laws.FnReadAh", spec := "fnReadAh", unfollowed := true, recurses := true, named := ["encoding/binary.BigEndian", "encoding/binary.LittleEndian"], apart := false }
def FnReadAhSaid : Prop := fnReadAhRow.holds Tryz.pinned (OpenSpec.ofChange fnReadAhSpec)

/-- ITS FALSE NEIGHBOUR: 'it returns false'. Refute it at one input. -/
def fnReadAhWrong : ChangeSpec := { name := "fnReadAh", fn := fun _ => fun
  | [d] => { results := [.lit (.bool false)], args := [d] }
  | _ => none }
def FnReadAhWrongFalsely : Prop := fnReadAhRow.holds Tryz.pinned (OpenSpec.ofChange fnReadAhWrong)

/-- 'laws.FnReadBfd': WHATEVER THE INPUT: true; the input reads as it did. -/
def fnReadBfdSpec : ChangeSpec := { name := "fnReadBfd", fn := fun _ => fun
  | [d] => { results := [.lit (.bool true)], args := [d] }
  | _ => none }
def fnReadBfdRow : OpenClaim := { program := "ytfkaafbeeegenaagreat", sum := "115e9eb51f564217d3c919afe14f3abf096423cb3f3d220125b49746e5b318f3", func := "loop.example/pub-g03268/laws.FnReadBfd", spec := "fnReadBfd", unfollowed := true, recurses := true, named := ["encoding/binary.BigEndian", "encoding/binary.LittleEndian"], apart := false }
def FnReadBfdSaid : Prop := fnReadBfdRow.holds Tryz.pinned (OpenSpec.ofChange fnReadBfdSpec)

/-- ITS FALSE NEIGHBOUR: 'it returns false'. Refute it at one input. -/
def fnReadBfdWrong : ChangeSpec := { name := "fnReadBfd", fn := fun _ => fun
  | [d] => { results := [.lit (.bool false)], args := [d] }
  | _ => none }
def FnReadBfdWrongFalsely : Prop := fnReadBfdRow.holds Tryz.pinned (OpenSpec.ofChange fnReadBfdWrong)

/-- 'laws.FnReadEap': WHATEVER THE INPUT: true; the input reads as it did. -/
def fnReadEapSpec : ChangeSpec := { name := "fnReadEap", fn := fun _ => fun
  | [d] => { results := [.lit (.bool true)], args := [d] }
  | _ => none }
def fnReadEapRow : OpenClaim := { program := "ytfkaafbeeegenaagreat", sum := "115e9eb51f564217d3c919afe14f3abf096423cb3f3d220125b49746e5b318f3", func := "loop.example/pub-g03268/laws.FnReadEap", spec := "fnReadEap", unfollowed := true, recurses := true, named := ["encoding/binary.BigEndian", "encoding/binary.LittleEndian"], apart := false }
def FnReadEapSaid : Prop := fnReadEapRow.holds Tryz.pinned (OpenSpec.ofChange fnReadEapSpec)

/-- ITS FALSE NEIGHBOUR: 'it returns false'. Refute it at one input. -/
def fnReadEapWrong : ChangeSpec := { name := "fnReadEap", fn := fun _ => fun
  | [d] => { results := [.lit (.bool false)], args := [d] }
  | _ => none }
def FnReadEapWrongFalsely : Prop := fnReadEapRow.holds Tryz.pinned (OpenSpec.ofChange fnReadEapWrong)

/-- 'laws.FnReadEapol': WHATEVER THE INPUT: true; the input reads as it did. -/
def fnReadEapolSpec : ChangeSpec := { name := "fnReadEapol", fn := fun _ => fun
  | [d] => { results := [.lit (.bool true)], args := [d] }
  | _ => none }
def fnReadEapolRow : OpenClaim := { program := "ytfkaafbeeegenaagreat", sum := "115e9eb51f564217d3c919afe14f3abf096423cb3f3d220125b49746e5b318f3", func := "loop.example/pub-g03268/laws.FnReadEapol", spec := "fnReadEapol", unfollowed := true, recurses := true, named := ["encoding/binary.BigEndian", "encoding/binary.LittleEndian"], apart := false }
def FnReadEapolSaid : Prop := fnReadEapolRow.holds Tryz.pinned (OpenSpec.ofChange fnReadEapolSpec)

/-- ITS FALSE NEIGHBOUR: 'it returns false'. Refute it at one input. -/
def fnReadEapolWrong : ChangeSpec := { name := "fnReadEapol", fn := fun _ => fun
  | [d] => { results := [.lit (.bool false)], args := [d] }
  | _ => none }
def FnReadEapolWrongFalsely : Prop := fnReadEapolRow.holds Tryz.pinned (OpenSpec.ofChange fnReadEapolWrong)

/-- 'laws.FnReadErspan': WHATEVER THE INPUT: true; the input reads as it did. -/
def fnReadErspanSpec : ChangeSpec := { name := "fnReadErspan", fn := fun _ => fun
  | [d] => { results := [.lit (.bool true)], args := [d] }
  | _ => none }
def fnReadErspanRow : OpenClaim := { program := "ytfkaafbeeegenaagreat", sum := "115e9eb51f564217d3c919afe14f3abf096423cb3f3d220125b49746e5b318f3", func := "loop.example/pub-g03268/laws.FnReadErspan", spec := "fnReadErspan", unfollowed := true, recurses := true, named := ["encoding/binary.BigEndian", "encoding/binary.LittleEndian"], apart := false }
def FnReadErspanSaid : Prop := fnReadErspanRow.holds Tryz.pinned (OpenSpec.ofChange fnReadErspanSpec)

/-- ITS FALSE NEIGHBOUR: 'it returns false'. Refute it at one input. -/
def fnReadErspanWrong : ChangeSpec := { name := "fnReadErspan", fn := fun _ => fun
  | [d] => { results := [.lit (.bool false)], args := [d] }
  | _ => none }
def FnReadErspanWrongFalsely : Prop := fnReadErspanRow.holds Tryz.pinned (OpenSpec.ofChange fnReadErspanWrong)

/-- 'laws.FnReadEsp': WHATEVER THE INPUT: true; the input reads as it did. -/
def fnReadEspSpec : ChangeSpec := { name := "fnReadEsp", fn := fun _ => fun
  | [d] => { results := [.lit (.bool true)], args := [d] }
  | _ => none }
def fnReadEspRow : OpenClaim := { program := "ytfkaafbeeegenaagreat", sum := "115e9eb51f564217d3c919afe14f3abf096423cb3f3d220125b49746e5b318f3", func := "loop.example/pub-g03268/laws.FnReadEsp", spec := "fnReadEsp", unfollowed := true, recurses := true, named := ["encoding/binary.BigEndian", "encoding/binary.LittleEndian"], apart := false }
def FnReadEspSaid : Prop := fnReadEspRow.holds Tryz.pinned (OpenSpec.ofChange fnReadEspSpec)

/-- ITS FALSE NEIGHBOUR: 'it returns false'. Refute it at one input. -/
def fnReadEspWrong : ChangeSpec := { name := "fnReadEsp", fn := fun _ => fun
  | [d] => { results := [.lit (.bool false)], args := [d] }
  | _ => none }
def FnReadEspWrongFalsely : Prop := fnReadEspRow.holds Tryz.pinned (OpenSpec.ofChange fnReadEspWrong)

/-- 'laws.FnReadEtherIP': WHATEVER THE INPUT: true; the input reads as it did. -/
def fnReadEtherIPSpec : ChangeSpec := { name := "fnReadEtherIP", fn := fun _ => fun
  | [d] => { results := [.lit (.bool true)], args := [d] }
  | _ => none }
def fnReadEtherIPRow : OpenClaim := { program := "ytfkaafbeeegenaagreat", sum := "115e9eb51f564217d3c919afe14f3abf096423cb3f3d220125b49746e5b318f3", func := "loop.example/pub-g03268/laws.FnReadEtherIP", spec := "fnReadEtherIP", unfollowed := true, recurses := true, named := ["encoding/binary.BigEndian", "encoding/binary.LittleEndian"], apart := false }
def FnReadEtherIPSaid : Prop := fnReadEtherIPRow.holds Tryz.pinned (OpenSpec.ofChange fnReadEtherIPSpec)

/-- ITS FALSE NEIGHBOUR: 'it returns false'. Refute it at one input. -/
def fnReadEtherIPWrong : ChangeSpec := { name := "fnReadEtherIP", fn := fun _ => fun
  | [d] => { results := [.lit (.bool false)], args := [d] }
  | _ => none }
def FnReadEtherIPWrongFalsely : Prop := fnReadEtherIPRow.holds Tryz.pinned (OpenSpec.ofChange fnReadEtherIPWrong)

/-- 'laws.FnReadGeneve': WHATEVER THE INPUT: true; the input reads as it did. -/
def fnReadGeneveSpec : ChangeSpec := { name := "fnReadGeneve", fn := fun _ => fun
  | [d] => { results := [.lit (.bool true)], args := [d] }
  | _ => none }
def fnReadGeneveRow : OpenClaim := { program := "ytfkaafbeeegenaagreat", sum := "115e9eb51f564217d3c919afe14f3abf096423cb3f3d220125b49746e5b318f3", func := "loop.example/pub-g03268/laws.FnReadGeneve", spec := "fnReadGeneve", unfollowed := true, recurses := true, named := ["encoding/binary.BigEndian", "encoding/binary.LittleEndian"], apart := false }
def FnReadGeneveSaid : Prop := fnReadGeneveRow.holds Tryz.pinned (OpenSpec.ofChange fnReadGeneveSpec)

/-- ITS FALSE NEIGHBOUR: 'it returns false'. Refute it at one input. -/
def fnReadGeneveWrong : ChangeSpec := { name := "fnReadGeneve", fn := fun _ => fun
  | [d] => { results := [.lit (.bool false)], args := [d] }
  | _ => none }
def FnReadGeneveWrongFalsely : Prop := fnReadGeneveRow.holds Tryz.pinned (OpenSpec.ofChange fnReadGeneveWrong)

/-- 'laws.FnReadGtp': WHATEVER THE INPUT: true; the input reads as it did. -/
def fnReadGtpSpec : ChangeSpec := { name := "fnReadGtp", fn := fun _ => fun
  | [d] => { results := [.lit (.bool true)], args := [d] }
  | _ => none }
def fnReadGtpRow : OpenClaim := { program := "ytfkaafbeeegenaagreat", sum := "115e9eb51f564217d3c919afe14f3abf096423cb3f3d220125b49746e5b318f3", func := "loop.example/pub-g03268/laws.FnReadGtp", spec := "fnReadGtp", unfollowed := true, recurses := true, named := ["encoding/binary.BigEndian", "encoding/binary.LittleEndian"], apart := false }
def FnReadGtpSaid : Prop := fnReadGtpRow.holds Tryz.pinned (OpenSpec.ofChange fnReadGtpSpec)

/-- ITS FALSE NEIGHBOUR: 'it returns false'. Refute it at one input. -/
def fnReadGtpWrong : ChangeSpec := { name := "fnReadGtp", fn := fun _ => fun
  | [d] => { results := [.lit (.bool false)], args := [d] }
  | _ => none }
def FnReadGtpWrongFalsely : Prop := fnReadGtpRow.holds Tryz.pinned (OpenSpec.ofChange fnReadGtpWrong)

/-- 'laws.FnReadIgmp': WHATEVER THE INPUT: true; the input reads as it did. -/
def fnReadIgmpSpec : ChangeSpec := { name := "fnReadIgmp", fn := fun _ => fun
  | [d] => { results := [.lit (.bool true)], args := [d] }
  | _ => none }
def fnReadIgmpRow : OpenClaim := { program := "ytfkaafbeeegenaagreat", sum := "115e9eb51f564217d3c919afe14f3abf096423cb3f3d220125b49746e5b318f3", func := "loop.example/pub-g03268/laws.FnReadIgmp", spec := "fnReadIgmp", unfollowed := true, recurses := true, named := ["encoding/binary.BigEndian", "encoding/binary.LittleEndian"], apart := false }
def FnReadIgmpSaid : Prop := fnReadIgmpRow.holds Tryz.pinned (OpenSpec.ofChange fnReadIgmpSpec)

/-- ITS FALSE NEIGHBOUR: 'it returns false'. Refute it at one input. -/
def fnReadIgmpWrong : ChangeSpec := { name := "fnReadIgmp", fn := fun _ => fun
  | [d] => { results := [.lit (.bool false)], args := [d] }
  | _ => none }
def FnReadIgmpWrongFalsely : Prop := fnReadIgmpRow.holds Tryz.pinned (OpenSpec.ofChange fnReadIgmpWrong)

/-- 'laws.FnReadIgmp3': WHATEVER THE INPUT: true; the input reads as it did. -/
def fnReadIgmp3Spec : ChangeSpec := { name := "fnReadIgmp3", fn := fun _ => fun
  | [d] => { results := [.lit (.bool true)], args := [d] }
  | _ => none }
def fnReadIgmp3Row : OpenClaim := { program := "ytfkaafbeeegenaagreat", sum := "115e9eb51f564217d3c919afe14f3abf096423cb3f3d220125b49746e5b318f3", func := "loop.example/pub-g03268/laws.FnReadIgmp3", spec := "fnReadIgmp3", unfollowed := true, recurses := true, named := ["encoding/binary.BigEndian", "encoding/binary.LittleEndian"], apart := false }
def FnReadIgmp3Said : Prop := fnReadIgmp3Row.holds Tryz.pinned (OpenSpec.ofChange fnReadIgmp3Spec)

/-- ITS FALSE NEIGHBOUR: 'it returns false'. Refute it at one input. -/
def fnReadIgmp3Wrong : ChangeSpec := { name := "fnReadIgmp3", fn := fun _ => fun
  | [d] => { results := [.lit (.bool false)], args := [d] }
  | _ => none }
def FnReadIgmp3WrongFalsely : Prop := fnReadIgmp3Row.holds Tryz.pinned (OpenSpec.ofChange fnReadIgmp3Wrong)

/-- 'laws.FnReadKey': WHATEVER THE INPUT: true; the input reads as it did. -/
def fnReadKeySpec : ChangeSpec := { name := "fnReadKey", fn := fun _ => fun
  | [d] => { results := [.lit (.bool true)], args := [d] }
  | _ => none }
def fnReadKeyRow : OpenClaim := { program := "ytfkaafbeeegenaagreat", sum := "115e9eb51f564217d3c919afe14f3abf096423cb3f3d220125b49746e5b318f3", func := "loop.example/pub-g03268/laws.FnReadKey", spec := "fnReadKey", unfollowed := true, recurses := true, named := ["encoding/binary.BigEndian", "encoding/binary.LittleEndian"], apart := false }
def FnReadKeySaid : Prop := fnReadKeyRow.holds Tryz.pinned (OpenSpec.ofChange fnReadKeySpec)

/-- ITS FALSE NEIGHBOUR: 'it returns false'. Refute it at one input. -/
def fnReadKeyWrong : ChangeSpec := { name := "fnReadKey", fn := fun _ => fun
  | [d] => { results := [.lit (.bool false)], args := [d] }
  | _ => none }
def FnReadKeyWrongFalsely : Prop := fnReadKeyRow.holds Tryz.pinned (OpenSpec.ofChange fnReadKeyWrong)

/-- 'laws.FnReadLlc': WHATEVER THE INPUT: true; the input reads as it did. -/
def fnReadLlcSpec : ChangeSpec := { name := "fnReadLlc", fn := fun _ => fun
  | [d] => { results := [.lit (.bool true)], args := [d] }
  | _ => none }
def fnReadLlcRow : OpenClaim := { program := "ytfkaafbeeegenaagreat", sum := "115e9eb51f564217d3c919afe14f3abf096423cb3f3d220125b49746e5b318f3", func := "loop.example/pub-g03268/laws.FnReadLlc", spec := "fnReadLlc", unfollowed := true, recurses := true, named := ["encoding/binary.BigEndian", "encoding/binary.LittleEndian"], apart := false }
def FnReadLlcSaid : Prop := fnReadLlcRow.holds Tryz.pinned (OpenSpec.ofChange fnReadLlcSpec)

/-- ITS FALSE NEIGHBOUR: 'it returns false'. Refute it at one input. -/
def fnReadLlcWrong : ChangeSpec := { name := "fnReadLlc", fn := fun _ => fun
  | [d] => { results := [.lit (.bool false)], args := [d] }
  | _ => none }
def FnReadLlcWrongFalsely : Prop := fnReadLlcRow.holds Tryz.pinned (OpenSpec.ofChange fnReadLlcWrong)

/-- 'laws.FnReadLoopback': WHATEVER THE INPUT: true; the input reads as it did. -/
def fnReadLoopbackSpec : ChangeSpec := { name := "fnReadLoopback", fn := fun _ => fun
  | [d] => { results := [.lit (.bool true)], args := [d] }
  | _ => none }
def fnReadLoopbackRow : OpenClaim := { program := "ytfkaafbeeegenaagreat", sum := "115e9eb51f564217d3c919afe14f3abf096423cb3f3d220125b49746e5b318f3", func := "loop.example/pub-g03268/laws.FnReadLoopback", spec := "fnReadLoopback", unfollowed := true, recurses := true, named := ["encoding/binary.BigEndian", "encoding/binary.LittleEndian"], apart := false }
def FnReadLoopbackSaid : Prop := fnReadLoopbackRow.holds Tryz.pinned (OpenSpec.ofChange fnReadLoopbackSpec)

/-- ITS FALSE NEIGHBOUR: 'it returns false'. Refute it at one input. -/
def fnReadLoopbackWrong : ChangeSpec := { name := "fnReadLoopback", fn := fun _ => fun
  | [d] => { results := [.lit (.bool false)], args := [d] }
  | _ => none }
def FnReadLoopbackWrongFalsely : Prop := fnReadLoopbackRow.holds Tryz.pinned (OpenSpec.ofChange fnReadLoopbackWrong)

/-- 'laws.FnReadMpls': WHATEVER THE INPUT: true; the input reads as it did. -/
def fnReadMplsSpec : ChangeSpec := { name := "fnReadMpls", fn := fun _ => fun
  | [d] => { results := [.lit (.bool true)], args := [d] }
  | _ => none }
def fnReadMplsRow : OpenClaim := { program := "ytfkaafbeeegenaagreat", sum := "115e9eb51f564217d3c919afe14f3abf096423cb3f3d220125b49746e5b318f3", func := "loop.example/pub-g03268/laws.FnReadMpls", spec := "fnReadMpls", unfollowed := true, recurses := true, named := ["encoding/binary.BigEndian", "encoding/binary.LittleEndian"], apart := false }
def FnReadMplsSaid : Prop := fnReadMplsRow.holds Tryz.pinned (OpenSpec.ofChange fnReadMplsSpec)

/-- ITS FALSE NEIGHBOUR: 'it returns false'. Refute it at one input. -/
def fnReadMplsWrong : ChangeSpec := { name := "fnReadMpls", fn := fun _ => fun
  | [d] => { results := [.lit (.bool false)], args := [d] }
  | _ => none }
def FnReadMplsWrongFalsely : Prop := fnReadMplsRow.holds Tryz.pinned (OpenSpec.ofChange fnReadMplsWrong)

/-- 'laws.FnReadNtp': WHATEVER THE INPUT: true; the input reads as it did. -/
def fnReadNtpSpec : ChangeSpec := { name := "fnReadNtp", fn := fun _ => fun
  | [d] => { results := [.lit (.bool true)], args := [d] }
  | _ => none }
def fnReadNtpRow : OpenClaim := { program := "ytfkaafbeeegenaagreat", sum := "115e9eb51f564217d3c919afe14f3abf096423cb3f3d220125b49746e5b318f3", func := "loop.example/pub-g03268/laws.FnReadNtp", spec := "fnReadNtp", unfollowed := true, recurses := true, named := ["encoding/binary.BigEndian", "encoding/binary.LittleEndian"], apart := false }
def FnReadNtpSaid : Prop := fnReadNtpRow.holds Tryz.pinned (OpenSpec.ofChange fnReadNtpSpec)

/-- ITS FALSE NEIGHBOUR: 'it returns false'. Refute it at one input. -/
def fnReadNtpWrong : ChangeSpec := { name := "fnReadNtp", fn := fun _ => fun
  | [d] => { results := [.lit (.bool false)], args := [d] }
  | _ => none }
def FnReadNtpWrongFalsely : Prop := fnReadNtpRow.holds Tryz.pinned (OpenSpec.ofChange fnReadNtpWrong)

/-- 'laws.FnReadPpp': WHATEVER THE INPUT: true; the input reads as it did. -/
def fnReadPppSpec : ChangeSpec := { name := "fnReadPpp", fn := fun _ => fun
  | [d] => { results := [.lit (.bool true)], args := [d] }
  | _ => none }
def fnReadPppRow : OpenClaim := { program := "ytfkaafbeeegenaagreat", sum := "115e9eb51f564217d3c919afe14f3abf096423cb3f3d220125b49746e5b318f3", func := "loop.example/pub-g03268/laws.FnReadPpp", spec := "fnReadPpp", unfollowed := true, recurses := true, named := ["encoding/binary.BigEndian", "encoding/binary.LittleEndian"], apart := false }
def FnReadPppSaid : Prop := fnReadPppRow.holds Tryz.pinned (OpenSpec.ofChange fnReadPppSpec)

/-- ITS FALSE NEIGHBOUR: 'it returns false'. Refute it at one input. -/
def fnReadPppWrong : ChangeSpec := { name := "fnReadPpp", fn := fun _ => fun
  | [d] => { results := [.lit (.bool false)], args := [d] }
  | _ => none }
def FnReadPppWrongFalsely : Prop := fnReadPppRow.holds Tryz.pinned (OpenSpec.ofChange fnReadPppWrong)

/-- 'laws.FnReadPppoe': WHATEVER THE INPUT: true; the input reads as it did. -/
def fnReadPppoeSpec : ChangeSpec := { name := "fnReadPppoe", fn := fun _ => fun
  | [d] => { results := [.lit (.bool true)], args := [d] }
  | _ => none }
def fnReadPppoeRow : OpenClaim := { program := "ytfkaafbeeegenaagreat", sum := "115e9eb51f564217d3c919afe14f3abf096423cb3f3d220125b49746e5b318f3", func := "loop.example/pub-g03268/laws.FnReadPppoe", spec := "fnReadPppoe", unfollowed := true, recurses := true, named := ["encoding/binary.BigEndian", "encoding/binary.LittleEndian"], apart := false }
def FnReadPppoeSaid : Prop := fnReadPppoeRow.holds Tryz.pinned (OpenSpec.ofChange fnReadPppoeSpec)

/-- ITS FALSE NEIGHBOUR: 'it returns false'. Refute it at one input. -/
def fnReadPppoeWrong : ChangeSpec := { name := "fnReadPppoe", fn := fun _ => fun
  | [d] => { results := [.lit (.bool false)], args := [d] }
  | _ => none }
def FnReadPppoeWrongFalsely : Prop := fnReadPppoeRow.holds Tryz.pinned (OpenSpec.ofChange fnReadPppoeWrong)

/-- 'laws.FnReadSll': WHATEVER THE INPUT: true; the input reads as it did. -/
def fnReadSllSpec : ChangeSpec := { name := "fnReadSll", fn := fun _ => fun
  | [d] => { results := [.lit (.bool true)], args := [d] }
  | _ => none }
def fnReadSllRow : OpenClaim := { program := "ytfkaafbeeegenaagreat", sum := "115e9eb51f564217d3c919afe14f3abf096423cb3f3d220125b49746e5b318f3", func := "loop.example/pub-g03268/laws.FnReadSll", spec := "fnReadSll", unfollowed := true, recurses := true, named := ["encoding/binary.BigEndian", "encoding/binary.LittleEndian"], apart := false }
def FnReadSllSaid : Prop := fnReadSllRow.holds Tryz.pinned (OpenSpec.ofChange fnReadSllSpec)

/-- ITS FALSE NEIGHBOUR: 'it returns false'. Refute it at one input. -/
def fnReadSllWrong : ChangeSpec := { name := "fnReadSll", fn := fun _ => fun
  | [d] => { results := [.lit (.bool false)], args := [d] }
  | _ => none }
def FnReadSllWrongFalsely : Prop := fnReadSllRow.holds Tryz.pinned (OpenSpec.ofChange fnReadSllWrong)

/-- 'laws.FnReadSnap': WHATEVER THE INPUT: true; the input reads as it did. -/
def fnReadSnapSpec : ChangeSpec := { name := "fnReadSnap", fn := fun _ => fun
  | [d] => { results := [.lit (.bool true)], args := [d] }
  | _ => none }
def fnReadSnapRow : OpenClaim := { program := "ytfkaafbeeegenaagreat", sum := "115e9eb51f564217d3c919afe14f3abf096423cb3f3d220125b49746e5b318f3", func := "loop.example/pub-g03268/laws.FnReadSnap", spec := "fnReadSnap", unfollowed := true, recurses := true, named := ["encoding/binary.BigEndian", "encoding/binary.LittleEndian"], apart := false }
def FnReadSnapSaid : Prop := fnReadSnapRow.holds Tryz.pinned (OpenSpec.ofChange fnReadSnapSpec)

/-- ITS FALSE NEIGHBOUR: 'it returns false'. Refute it at one input. -/
def fnReadSnapWrong : ChangeSpec := { name := "fnReadSnap", fn := fun _ => fun
  | [d] => { results := [.lit (.bool false)], args := [d] }
  | _ => none }
def FnReadSnapWrongFalsely : Prop := fnReadSnapRow.holds Tryz.pinned (OpenSpec.ofChange fnReadSnapWrong)

/-- 'laws.FnReadUdpLite': WHATEVER THE INPUT: true; the input reads as it did. -/
def fnReadUdpLiteSpec : ChangeSpec := { name := "fnReadUdpLite", fn := fun _ => fun
  | [d] => { results := [.lit (.bool true)], args := [d] }
  | _ => none }
def fnReadUdpLiteRow : OpenClaim := { program := "ytfkaafbeeegenaagreat", sum := "115e9eb51f564217d3c919afe14f3abf096423cb3f3d220125b49746e5b318f3", func := "loop.example/pub-g03268/laws.FnReadUdpLite", spec := "fnReadUdpLite", unfollowed := true, recurses := true, named := ["encoding/binary.BigEndian", "encoding/binary.LittleEndian"], apart := false }
def FnReadUdpLiteSaid : Prop := fnReadUdpLiteRow.holds Tryz.pinned (OpenSpec.ofChange fnReadUdpLiteSpec)

/-- ITS FALSE NEIGHBOUR: 'it returns false'. Refute it at one input. -/
def fnReadUdpLiteWrong : ChangeSpec := { name := "fnReadUdpLite", fn := fun _ => fun
  | [d] => { results := [.lit (.bool false)], args := [d] }
  | _ => none }
def FnReadUdpLiteWrongFalsely : Prop := fnReadUdpLiteRow.holds Tryz.pinned (OpenSpec.ofChange fnReadUdpLiteWrong)

/-- 'laws.FnReadVrrp': WHATEVER THE INPUT: true; the input reads as it did. -/
def fnReadVrrpSpec : ChangeSpec := { name := "fnReadVrrp", fn := fun _ => fun
  | [d] => { results := [.lit (.bool true)], args := [d] }
  | _ => none }
def fnReadVrrpRow : OpenClaim := { program := "ytfkaafbeeegenaagreat", sum := "115e9eb51f564217d3c919afe14f3abf096423cb3f3d220125b49746e5b318f3", func := "loop.example/pub-g03268/laws.FnReadVrrp", spec := "fnReadVrrp", unfollowed := true, recurses := true, named := ["encoding/binary.BigEndian", "encoding/binary.LittleEndian"], apart := false }
def FnReadVrrpSaid : Prop := fnReadVrrpRow.holds Tryz.pinned (OpenSpec.ofChange fnReadVrrpSpec)

/-- ITS FALSE NEIGHBOUR: 'it returns false'. Refute it at one input. -/
def fnReadVrrpWrong : ChangeSpec := { name := "fnReadVrrp", fn := fun _ => fun
  | [d] => { results := [.lit (.bool false)], args := [d] }
  | _ => none }
def FnReadVrrpWrongFalsely : Prop := fnReadVrrpRow.holds Tryz.pinned (OpenSpec.ofChange fnReadVrrpWrong)

/- THE SECOND FORM. 'bulk': how many values and letters a reading holds, each counted each time it is reached (what is shared counts as often as it is met; a slice's spare places count too). A statement '..UptoSaid' is the law's where the arguments, and the package variables that the reading takes, are together of bulk at most 1048576: NARROWER than '..Said'. Prove '..Said' where nothing that the law and all that it calls make is longer than what came in: it says more and counts as full. Else prove '..UptoSaid'. A law counts once. -/
mutual
def uptoBulk {H : Type} : DataW H → Nat
  | .lit (.string bytes) => bytes.length + 1
  | .lit _ => 1
  | .nil => 1
  | .ptr d => uptoBulk d + 1
  | .slice elems spare => uptoBulkAll elems + uptoBulkAll spare + 1
  | .agg parts => uptoBulkAll parts + 1
  | .iface _ d => uptoBulk d + 1
  | .map entries => uptoBulkEntries entries + 1
  | .held _ => 1
def uptoBulkAll {H : Type} : List (DataW H) → Nat
  | [] => 0
  | d :: r => uptoBulk d + uptoBulkAll r
def uptoBulkEntries {H : Type} : List (Lit × DataW H) → Nat
  | [] => 0
  | x :: r => uptoBulkEntry x + uptoBulkEntries r
def uptoBulkEntry {H : Type} : Lit × DataW H → Nat
  | (.string bytes, d) => bytes.length + uptoBulk d + 1
  | (_, d) => uptoBulk d + 1
 end
def uptoSmall : (H : Type) → List (DataW H) → Bool := fun _ ds => decide (uptoBulkAll ds ≤ 1048576)
def OpenSpec.upto (s : _root_.Go.ChangeSpec) : _root_.Go.OpenSpec := { _root_.Go.OpenSpec.ofChange s with cond := some uptoSmall }

/-- 'laws.FnReadAh', WHERE WHAT IT READS IS OF BULK AT MOST 1048576: true; the input reads as it did. -/
def fnReadAhUptoRow : OpenClaim := { program := "ytfkaafbeeegenaagreat", sum := "115e9eb51f564217d3c919afe14f3abf096423cb3f3d220125b49746e5b318f3", func := "loop.example/pub-g03268/laws.FnReadAh", spec := "fnReadAh", unfollowed := true, recurses := true, named := ["encoding/binary.BigEndian", "encoding/binary.LittleEndian"], apart := false, narrowed := true }
def FnReadAhUptoSaid : Prop := fnReadAhUptoRow.holds Tryz.pinned (OpenSpec.upto fnReadAhSpec)

/-- 'laws.FnReadBfd', WHERE WHAT IT READS IS OF BULK AT MOST 1048576: true; the input reads as it did. -/
def fnReadBfdUptoRow : OpenClaim := { program := "ytfkaafbeeegenaagreat", sum := "115e9eb51f564217d3c919afe14f3abf096423cb3f3d220125b49746e5b318f3", func := "loop.example/pub-g03268/laws.FnReadBfd", spec := "fnReadBfd", unfollowed := true, recurses := true, named := ["encoding/binary.BigEndian", "encoding/binary.LittleEndian"], apart := false, narrowed := true }
def FnReadBfdUptoSaid : Prop := fnReadBfdUptoRow.holds Tryz.pinned (OpenSpec.upto fnReadBfdSpec)

/-- 'laws.FnReadEap', WHERE WHAT IT READS IS OF BULK AT MOST 1048576: true; the input reads as it did. -/
def fnReadEapUptoRow : OpenClaim := { program := "ytfkaafbeeegenaagreat", sum := "115e9eb51f564217d3c919afe14f3abf096423cb3f3d220125b49746e5b318f3", func := "loop.example/pub-g03268/laws.FnReadEap", spec := "fnReadEap", unfollowed := true, recurses := true, named := ["encoding/binary.BigEndian", "encoding/binary.LittleEndian"], apart := false, narrowed := true }
def FnReadEapUptoSaid : Prop := fnReadEapUptoRow.holds Tryz.pinned (OpenSpec.upto fnReadEapSpec)

/-- 'laws.FnReadEapol', WHERE WHAT IT READS IS OF BULK AT MOST 1048576: true; the input reads as it did. -/
def fnReadEapolUptoRow : OpenClaim := { program := "ytfkaafbeeegenaagreat", sum := "115e9eb51f564217d3c919afe14f3abf096423cb3f3d220125b49746e5b318f3", func := "loop.example/pub-g03268/laws.FnReadEapol", spec := "fnReadEapol", unfollowed := true, recurses := true, named := ["encoding/binary.BigEndian", "encoding/binary.LittleEndian"], apart := false, narrowed := true }
def FnReadEapolUptoSaid : Prop := fnReadEapolUptoRow.holds Tryz.pinned (OpenSpec.upto fnReadEapolSpec)

/-- 'laws.FnReadErspan', WHERE WHAT IT READS IS OF BULK AT MOST 1048576: true; the input reads as it did. -/
def fnReadErspanUptoRow : OpenClaim := { program := "ytfkaafbeeegenaagreat", sum := "115e9eb51f564217d3c919afe14f3abf096423cb3f3d220125b49746e5b318f3", func := "loop.example/pub-g03268/laws.FnReadErspan", spec := "fnReadErspan", unfollowed := true, recurses := true, named := ["encoding/binary.BigEndian", "encoding/binary.LittleEndian"], apart := false, narrowed := true }
def FnReadErspanUptoSaid : Prop := fnReadErspanUptoRow.holds Tryz.pinned (OpenSpec.upto fnReadErspanSpec)

/-- 'laws.FnReadEsp', WHERE WHAT IT READS IS OF BULK AT MOST 1048576: true; the input reads as it did. -/
def fnReadEspUptoRow : OpenClaim := { program := "ytfkaafbeeegenaagreat", sum := "115e9eb51f564217d3c919afe14f3abf096423cb3f3d220125b49746e5b318f3", func := "loop.example/pub-g03268/laws.FnReadEsp", spec := "fnReadEsp", unfollowed := true, recurses := true, named := ["encoding/binary.BigEndian", "encoding/binary.LittleEndian"], apart := false, narrowed := true }
def FnReadEspUptoSaid : Prop := fnReadEspUptoRow.holds Tryz.pinned (OpenSpec.upto fnReadEspSpec)

/-- 'laws.FnReadEtherIP', WHERE WHAT IT READS IS OF BULK AT MOST 1048576: true; the input reads as it did. -/
def fnReadEtherIPUptoRow : OpenClaim := { program := "ytfkaafbeeegenaagreat", sum := "115e9eb51f564217d3c919afe14f3abf096423cb3f3d220125b49746e5b318f3", func := "loop.example/pub-g03268/laws.FnReadEtherIP", spec := "fnReadEtherIP", unfollowed := true, recurses := true, named := ["encoding/binary.BigEndian", "encoding/binary.LittleEndian"], apart := false, narrowed := true }
def FnReadEtherIPUptoSaid : Prop := fnReadEtherIPUptoRow.holds Tryz.pinned (OpenSpec.upto fnReadEtherIPSpec)

/-- 'laws.FnReadGeneve', WHERE WHAT IT READS IS OF BULK AT MOST 1048576: true; the input reads as it did. -/
def fnReadGeneveUptoRow : OpenClaim := { program := "ytfkaafbeeegenaagreat", sum := "115e9eb51f564217d3c919afe14f3abf096423cb3f3d220125b49746e5b318f3", func := "loop.example/pub-g03268/laws.FnReadGeneve", spec := "fnReadGeneve", unfollowed := true, recurses := true, named := ["encoding/binary.BigEndian", "encoding/binary.LittleEndian"], apart := false, narrowed := true }
def FnReadGeneveUptoSaid : Prop := fnReadGeneveUptoRow.holds Tryz.pinned (OpenSpec.upto fnReadGeneveSpec)

/-- 'laws.FnReadGtp', WHERE WHAT IT READS IS OF BULK AT MOST 1048576: true; the input reads as it did. -/
def fnReadGtpUptoRow : OpenClaim := { program := "ytfkaafbeeegenaagreat", sum := "115e9eb51f564217d3c919afe14f3abf096423cb3f3d220125b49746e5b318f3", func := "loop.example/pub-g03268/laws.FnReadGtp", spec := "fnReadGtp", unfollowed := true, recurses := true, named := ["encoding/binary.BigEndian", "encoding/binary.LittleEndian"], apart := false, narrowed := true }
def FnReadGtpUptoSaid : Prop := fnReadGtpUptoRow.holds Tryz.pinned (OpenSpec.upto fnReadGtpSpec)

/-- 'laws.FnReadIgmp', WHERE WHAT IT READS IS OF BULK AT MOST 1048576: true; the input reads as it did. -/
def fnReadIgmpUptoRow : OpenClaim := { program := "ytfkaafbeeegenaagreat", sum := "115e9eb51f564217d3c919afe14f3abf096423cb3f3d220125b49746e5b318f3", func := "loop.example/pub-g03268/laws.FnReadIgmp", spec := "fnReadIgmp", unfollowed := true, recurses := true, named := ["encoding/binary.BigEndian", "encoding/binary.LittleEndian"], apart := false, narrowed := true }
def FnReadIgmpUptoSaid : Prop := fnReadIgmpUptoRow.holds Tryz.pinned (OpenSpec.upto fnReadIgmpSpec)

/-- 'laws.FnReadIgmp3', WHERE WHAT IT READS IS OF BULK AT MOST 1048576: true; the input reads as it did. -/
def fnReadIgmp3UptoRow : OpenClaim := { program := "ytfkaafbeeegenaagreat", sum := "115e9eb51f564217d3c919afe14f3abf096423cb3f3d220125b49746e5b318f3", func := "loop.example/pub-g03268/laws.FnReadIgmp3", spec := "fnReadIgmp3", unfollowed := true, recurses := true, named := ["encoding/binary.BigEndian", "encoding/binary.LittleEndian"], apart := false, narrowed := true }
def FnReadIgmp3UptoSaid : Prop := fnReadIgmp3UptoRow.holds Tryz.pinned (OpenSpec.upto fnReadIgmp3Spec)

/-- 'laws.FnReadKey', WHERE WHAT IT READS IS OF BULK AT MOST 1048576: true; the input reads as it did. -/
def fnReadKeyUptoRow : OpenClaim := { program := "ytfkaafbeeegenaagreat", sum := "115e9eb51f564217d3c919afe14f3abf096423cb3f3d220125b49746e5b318f3", func := "loop.example/pub-g03268/laws.FnReadKey", spec := "fnReadKey", unfollowed := true, recurses := true, named := ["encoding/binary.BigEndian", "encoding/binary.LittleEndian"], apart := false, narrowed := true }
def FnReadKeyUptoSaid : Prop := fnReadKeyUptoRow.holds Tryz.pinned (OpenSpec.upto fnReadKeySpec)

/-- 'laws.FnReadLlc', WHERE WHAT IT READS IS OF BULK AT MOST 1048576: true; the input reads as it did. -/
def fnReadLlcUptoRow : OpenClaim := { program := "ytfkaafbeeegenaagreat", sum := "115e9eb51f564217d3c919afe14f3abf096423cb3f3d220125b49746e5b318f3", func := "loop.example/pub-g03268/laws.FnReadLlc", spec := "fnReadLlc", unfollowed := true, recurses := true, named := ["encoding/binary.BigEndian", "encoding/binary.LittleEndian"], apart := false, narrowed := true }
def FnReadLlcUptoSaid : Prop := fnReadLlcUptoRow.holds Tryz.pinned (OpenSpec.upto fnReadLlcSpec)

/-- 'laws.FnReadLoopback', WHERE WHAT IT READS IS OF BULK AT MOST 1048576: true; the input reads as it did. -/
def fnReadLoopbackUptoRow : OpenClaim := { program := "ytfkaafbeeegenaagreat", sum := "115e9eb51f564217d3c919afe14f3abf096423cb3f3d220125b49746e5b318f3", func := "loop.example/pub-g03268/laws.FnReadLoopback", spec := "fnReadLoopback", unfollowed := true, recurses := true, named := ["encoding/binary.BigEndian", "encoding/binary.LittleEndian"], apart := false, narrowed := true }
def FnReadLoopbackUptoSaid : Prop := fnReadLoopbackUptoRow.holds Tryz.pinned (OpenSpec.upto fnReadLoopbackSpec)

/-- 'laws.FnReadMpls', WHERE WHAT IT READS IS OF BULK AT MOST 1048576: true; the input reads as it did. -/
def fnReadMplsUptoRow : OpenClaim := { program := "ytfkaafbeeegenaagreat", sum := "115e9eb51f564217d3c919afe14f3abf096423cb3f3d220125b49746e5b318f3", func := "loop.example/pub-g03268/laws.FnReadMpls", spec := "fnReadMpls", unfollowed := true, recurses := true, named := ["encoding/binary.BigEndian", "encoding/binary.LittleEndian"], apart := false, narrowed := true }
def FnReadMplsUptoSaid : Prop := fnReadMplsUptoRow.holds Tryz.pinned (OpenSpec.upto fnReadMplsSpec)

/-- 'laws.FnReadNtp', WHERE WHAT IT READS IS OF BULK AT MOST 1048576: true; the input reads as it did. -/
def fnReadNtpUptoRow : OpenClaim := { program := "ytfkaafbeeegenaagreat", sum := "115e9eb51f564217d3c919afe14f3abf096423cb3f3d220125b49746e5b318f3", func := "loop.example/pub-g03268/laws.FnReadNtp", spec := "fnReadNtp", unfollowed := true, recurses := true, named := ["encoding/binary.BigEndian", "encoding/binary.LittleEndian"], apart := false, narrowed := true }
def FnReadNtpUptoSaid : Prop := fnReadNtpUptoRow.holds Tryz.pinned (OpenSpec.upto fnReadNtpSpec)

/-- 'laws.FnReadPpp', WHERE WHAT IT READS IS OF BULK AT MOST 1048576: true; the input reads as it did. -/
def fnReadPppUptoRow : OpenClaim := { program := "ytfkaafbeeegenaagreat", sum := "115e9eb51f564217d3c919afe14f3abf096423cb3f3d220125b49746e5b318f3", func := "loop.example/pub-g03268/laws.FnReadPpp", spec := "fnReadPpp", unfollowed := true, recurses := true, named := ["encoding/binary.BigEndian", "encoding/binary.LittleEndian"], apart := false, narrowed := true }
def FnReadPppUptoSaid : Prop := fnReadPppUptoRow.holds Tryz.pinned (OpenSpec.upto fnReadPppSpec)

/-- 'laws.FnReadPppoe', WHERE WHAT IT READS IS OF BULK AT MOST 1048576: true; the input reads as it did. -/
def fnReadPppoeUptoRow : OpenClaim := { program := "ytfkaafbeeegenaagreat", sum := "115e9eb51f564217d3c919afe14f3abf096423cb3f3d220125b49746e5b318f3", func := "loop.example/pub-g03268/laws.FnReadPppoe", spec := "fnReadPppoe", unfollowed := true, recurses := true, named := ["encoding/binary.BigEndian", "encoding/binary.LittleEndian"], apart := false, narrowed := true }
def FnReadPppoeUptoSaid : Prop := fnReadPppoeUptoRow.holds Tryz.pinned (OpenSpec.upto fnReadPppoeSpec)

/-- 'laws.FnReadSll', WHERE WHAT IT READS IS OF BULK AT MOST 1048576: true; the input reads as it did. -/
def fnReadSllUptoRow : OpenClaim := { program := "ytfkaafbeeegenaagreat", sum := "115e9eb51f564217d3c919afe14f3abf096423cb3f3d220125b49746e5b318f3", func := "loop.example/pub-g03268/laws.FnReadSll", spec := "fnReadSll", unfollowed := true, recurses := true, named := ["encoding/binary.BigEndian", "encoding/binary.LittleEndian"], apart := false, narrowed := true }
def FnReadSllUptoSaid : Prop := fnReadSllUptoRow.holds Tryz.pinned (OpenSpec.upto fnReadSllSpec)

/-- 'laws.FnReadSnap', WHERE WHAT IT READS IS OF BULK AT MOST 1048576: true; the input reads as it did. -/
def fnReadSnapUptoRow : OpenClaim := { program := "ytfkaafbeeegenaagreat", sum := "115e9eb51f564217d3c919afe14f3abf096423cb3f3d220125b49746e5b318f3", func := "loop.example/pub-g03268/laws.FnReadSnap", spec := "fnReadSnap", unfollowed := true, recurses := true, named := ["encoding/binary.BigEndian", "encoding/binary.LittleEndian"], apart := false, narrowed := true }
def FnReadSnapUptoSaid : Prop := fnReadSnapUptoRow.holds Tryz.pinned (OpenSpec.upto fnReadSnapSpec)

/-- 'laws.FnReadUdpLite', WHERE WHAT IT READS IS OF BULK AT MOST 1048576: true; the input reads as it did. -/
def fnReadUdpLiteUptoRow : OpenClaim := { program := "ytfkaafbeeegenaagreat", sum := "115e9eb51f564217d3c919afe14f3abf096423cb3f3d220125b49746e5b318f3", func := "loop.example/pub-g03268/laws.FnReadUdpLite", spec := "fnReadUdpLite", unfollowed := true, recurses := true, named := ["encoding/binary.BigEndian", "encoding/binary.LittleEndian"], apart := false, narrowed := true }
def FnReadUdpLiteUptoSaid : Prop := fnReadUdpLiteUptoRow.holds Tryz.pinned (OpenSpec.upto fnReadUdpLiteSpec)

/-- 'laws.FnReadVrrp', WHERE WHAT IT READS IS OF BULK AT MOST 1048576: true; the input reads as it did. -/
def fnReadVrrpUptoRow : OpenClaim := { program := "ytfkaafbeeegenaagreat", sum := "115e9eb51f564217d3c919afe14f3abf096423cb3f3d220125b49746e5b318f3", func := "loop.example/pub-g03268/laws.FnReadVrrp", spec := "fnReadVrrp", unfollowed := true, recurses := true, named := ["encoding/binary.BigEndian", "encoding/binary.LittleEndian"], apart := false, narrowed := true }
def FnReadVrrpUptoSaid : Prop := fnReadVrrpUptoRow.holds Tryz.pinned (OpenSpec.upto fnReadVrrpSpec)

end Rows
end Go.Proofs.YtfkaafbeeegenaaGreat
