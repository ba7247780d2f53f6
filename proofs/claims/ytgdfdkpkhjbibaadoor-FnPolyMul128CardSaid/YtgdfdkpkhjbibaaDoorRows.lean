/-
  NARROWER THAN 'FOR EVERY INPUT', by the rows' own cells (each row's printed sentence says how): FnRoot128: ifaces, laid · FnTells128: laid · FnOf128: ifaces, laid · FnRing128: laid · FnStrip128: laid · FnEvaluate128: laid · FnAdd128Is: laid · FnJoin128Is: laid · FnMul128Is: laid · FnOrder128: laid · FnRootRoad128: ifaces, laid · FnBits128: ifaces, laid · FnInvOf128: ifaces, laid · FnInv128: laid · FnVec128Is: ifaces, laid · FnPolySqr128: ifaces, laid · FnNTT128Is: ifaces, laid · FnPolyMul128: ifaces, laid.
  DERIVED. THE GIVEN ROWS OF THIS SEAT. 18 by the template 'for every input the law returns true; each argument reads behind the call as it read before'; 0 by the template 'total and deterministic' (their statements: YtgdfdkpkhjbibaaDoorTotals.lean).
  GIVEN WITH THE SEED: the statements are not yours to turn. If you find one false, say at which input.
  Laid BY PROGRAM, IN A SANDBOX (cutbox-rows.mjs): the forced cells as the released guide's own fill.sh prints them over the translation 205ee2d08b111084… (all of the seat's roots in one cut). By AI agents, Wed Nov 11 2026. No macro, syntax, notation, axiom, sorry.
-/
import Derived.Test.YtgdfdkpkhjbibaaDoorChecked
import GoSem.Claim
import GoSem.ClaimJoined
import GoSem.ClaimMapViews
import Derived.JoinedTies
import Derived.KernelRfl
namespace Go.Proofs.YtgdfdkpkhjbibaaDoor
/- THE CELL 'sum', in the pinned program and in every row, IS THE sha256 OF THE DUMP (.gsa) THAT YtgdfdkpkhjbibaaDoorProg.lean LOADS. Nothing in Lean hashes anything: it is a label: what it is worth is what the hold of that sum in a sandbox is worth. -/
noncomputable def Tryd.pinned : Pinned := { name := "ytgdfdkpkhjbibaadoor", sum := "205ee2d08b1110841f9e3f5dffeabd8114af3ca70b304d3d40f484e71baa08c9", checked := Tryd.checked }
namespace Rows
def none {H : Type} : Left H := { results := [], args := [] }

/- WHAT THE LISTED PACKAGE-LEVEL VARIABLES READ AS WHEN THE CALL BEGINS. Each datum BY PROGRAM (the guide's laid-datum.mjs) off the statement by which the dump's own 'gosem.cut.vars' lays the variable. In a bare row this is a premise. The card (YtgdfdkpkhjbibaaDoorCards.lean) ties it to the program's text. -/
def laid_loop_example_pub_g03033_pub_circl_vdaf_fp128_rootOfUnityTwoN {H : Type} : DataW H := .agg [.agg [.lit (.int .u64 18446744073709551615), .lit (.int .u64 27)], .agg [.lit (.int .u64 2), .lit (.int .u64 18446744073709551560)], .agg [.lit (.int .u64 10374409696960829910), .lit (.int .u64 7021644019012309703)], .agg [.lit (.int .u64 1379151559840666966), .lit (.int .u64 9163222593273439388)], .agg [.lit (.int .u64 15115300349590612988), .lit (.int .u64 4424246308851192898)], .agg [.lit (.int .u64 4714516725884569180), .lit (.int .u64 6635383473388776608)], .agg [.lit (.int .u64 1452641083471126334), .lit (.int .u64 10812400013513865891)], .agg [.lit (.int .u64 10307876816848830270), .lit (.int .u64 14765121031625672496)], .agg [.lit (.int .u64 4840680212848472193), .lit (.int .u64 1347867870715519564)], .agg [.lit (.int .u64 1070773668343070011), .lit (.int .u64 13979857516227808937)], .agg [.lit (.int .u64 8747746185162836076), .lit (.int .u64 17549566576686269930)], .agg [.lit (.int .u64 18360110790640695967), .lit (.int .u64 3118862875799749565)], .agg [.lit (.int .u64 770404177797014848), .lit (.int .u64 8108282622221036460)], .agg [.lit (.int .u64 3284286158893662234), .lit (.int .u64 9596215481904777183)], .agg [.lit (.int .u64 1894074173525430549), .lit (.int .u64 14576888784565180050)], .agg [.lit (.int .u64 13371559661940758359), .lit (.int .u64 13257459398507111017)], .agg [.lit (.int .u64 13320011096681961802), .lit (.int .u64 6448044793733240384)], .agg [.lit (.int .u64 17476372427624280516), .lit (.int .u64 10950829761150761094)], .agg [.lit (.int .u64 16618507735330179067), .lit (.int .u64 18034463147831644395)], .agg [.lit (.int .u64 16518479503067746976), .lit (.int .u64 14001367281708383180)], .agg [.lit (.int .u64 7838208467655883200), .lit (.int .u64 8035089724589418252)], .agg [.lit (.int .u64 3192212986179796228), .lit (.int .u64 1712123557785542205)], .agg [.lit (.int .u64 9527162230657243790), .lit (.int .u64 15913690936300310154)], .agg [.lit (.int .u64 5339887281604556704), .lit (.int .u64 4113640859927688040)], .agg [.lit (.int .u64 7564687819352741120), .lit (.int .u64 9995147013589172524)], .agg [.lit (.int .u64 2075043803016547538), .lit (.int .u64 9338505236996277697)], .agg [.lit (.int .u64 2731988353076501286), .lit (.int .u64 8367329627401490178)], .agg [.lit (.int .u64 6320681257928559974), .lit (.int .u64 7502774396727306509)], .agg [.lit (.int .u64 11228519224030969826), .lit (.int .u64 2976370993775086513)], .agg [.lit (.int .u64 16386366634737872717), .lit (.int .u64 4623304458423001477)], .agg [.lit (.int .u64 5080998060397383490), .lit (.int .u64 15868839313556488545)], .agg [.lit (.int .u64 15288630951900789307), .lit (.int .u64 1622593910660567565)], .agg [.lit (.int .u64 5227097845905983382), .lit (.int .u64 16154740915059088445)], .agg [.lit (.int .u64 3807110356859642311), .lit (.int .u64 7637862820692531938)], .agg [.lit (.int .u64 12329903572913409968), .lit (.int .u64 4211392234316317269)], .agg [.lit (.int .u64 2044460337124212626), .lit (.int .u64 5674741900633523196)], .agg [.lit (.int .u64 2688867133389173482), .lit (.int .u64 5656342540707871558)], .agg [.lit (.int .u64 8677148500143160845), .lit (.int .u64 18137259275198952289)], .agg [.lit (.int .u64 13545599629358268224), .lit (.int .u64 6382600406713746035)], .agg [.lit (.int .u64 903899364834054271), .lit (.int .u64 3102379603587612868)], .agg [.lit (.int .u64 17354764056568481276), .lit (.int .u64 3676146121374667012)], .agg [.lit (.int .u64 5985033823958940489), .lit (.int .u64 8248302202708947136)], .agg [.lit (.int .u64 17285466250193579248), .lit (.int .u64 15247942732565914983)], .agg [.lit (.int .u64 17185208118022877260), .lit (.int .u64 1179113937118555464)], .agg [.lit (.int .u64 8373358283217106587), .lit (.int .u64 18397475607808628327)], .agg [.lit (.int .u64 2185922334364247573), .lit (.int .u64 6976311404098037494)], .agg [.lit (.int .u64 17914808345390261800), .lit (.int .u64 15226741681113141536)], .agg [.lit (.int .u64 10640239827325962213), .lit (.int .u64 11623467466965512728)], .agg [.lit (.int .u64 8179852634823841686), .lit (.int .u64 3487994591909175625)], .agg [.lit (.int .u64 5242530522073964408), .lit (.int .u64 158167437945536094)], .agg [.lit (.int .u64 12457820403543383877), .lit (.int .u64 10976495645418305359)], .agg [.lit (.int .u64 16994545358224310727), .lit (.int .u64 10544027158644490565)], .agg [.lit (.int .u64 11686546174118123263), .lit (.int .u64 17732476128547020205)], .agg [.lit (.int .u64 16952651020138235224), .lit (.int .u64 5490939359352178210)], .agg [.lit (.int .u64 12694698848362125171), .lit (.int .u64 911800435710339877)], .agg [.lit (.int .u64 3327380971346450560), .lit (.int .u64 16648064225457242272)], .agg [.lit (.int .u64 359934395864123099), .lit (.int .u64 9430116595053470672)], .agg [.lit (.int .u64 14216090470297632384), .lit (.int .u64 17256804733093808147)], .agg [.lit (.int .u64 4759555475978966813), .lit (.int .u64 15063352750448737978)], .agg [.lit (.int .u64 15339752560092122717), .lit (.int .u64 7620137722649810532)], .agg [.lit (.int .u64 17175228823792964757), .lit (.int .u64 16715832742896324795)], .agg [.lit (.int .u64 15844650198602935212), .lit (.int .u64 7002379757104502701)], .agg [.lit (.int .u64 11407548535363670499), .lit (.int .u64 6091012841302941330)], .agg [.lit (.int .u64 4349862396802110658), .lit (.int .u64 1885300757459187502)], .agg [.lit (.int .u64 10035698825438843949), .lit (.int .u64 15687685917816012795)], .agg [.lit (.int .u64 3704251235061459422), .lit (.int .u64 2265461842416507250)], .agg [.lit (.int .u64 17298642525492058229), .lit (.int .u64 5834685950321176732)]]
def laid_loop_example_pub_g03033_pub_circl_vdaf_fp128_ErrRootsOfUnity {H : Type} : DataW H := .iface "*errors.errorString" (.ptr (.agg [.lit (.string [70, 112, 32, 104, 97, 115, 32, 110, 111, 32, 114, 111, 111, 116, 115, 32, 111, 102, 32, 117, 110, 105, 116, 121, 32, 111, 102, 32, 111, 114, 100, 101, 114, 32, 108, 97, 114, 103, 101, 114, 32, 116, 104, 97, 110, 32, 50, 94, 54, 54])]))
def laid_loop_example_pub_g03033_pub_circl_vdaf_fp128_rSquare {H : Type} : DataW H := .agg [.lit (.int .u64 18446744073709550833), .lit (.int .u64 21895)]
def laid_loop_example_pub_g03033_pub_circl_vdaf_fp128_ErrNumberTooLarge {H : Type} : DataW H := .iface "*errors.errorString" (.ptr (.agg [.lit (.string [110, 117, 109, 98, 101, 114, 32, 111, 102, 32, 98, 105, 116, 115, 32, 105, 115, 32, 110, 111, 116, 32, 101, 110, 111, 117, 103, 104, 32, 116, 111, 32, 114, 101, 112, 114, 101, 115, 101, 110, 116, 32, 116, 104, 101, 32, 110, 117, 109, 98, 101, 114])]))
def laid_loop_example_pub_g03033_pub_circl_vdaf_fp128_half {H : Type} : DataW H := .agg [.lit (.int .u64 0), .lit (.int .u64 9223372036854775808)]
def laid_loop_example_pub_g03033_pub_circl_vdaf_fp128_inverseInt {H : Type} : DataW H := .agg [.agg [.lit (.int .u64 18446744073709551615), .lit (.int .u64 27)], .agg [.lit (.int .u64 0), .lit (.int .u64 9223372036854775808)], .agg [.lit (.int .u64 6148914691236517205), .lit (.int .u64 9)], .agg [.lit (.int .u64 0), .lit (.int .u64 4611686018427387904)], .agg [.lit (.int .u64 14757395258967641293), .lit (.int .u64 7378697629483820640)], .agg [.lit (.int .u64 12297829382473034411), .lit (.int .u64 9223372036854775798)], .agg [.lit (.int .u64 15811494920322472814), .lit (.int .u64 7905747460161236398)], .agg [.lit (.int .u64 0), .lit (.int .u64 2305843009213693952)]]
def laid_loop_example_pub_g03033_pub_circl_vdaf_fp128_ErrFieldEltDecode {H : Type} : DataW H := .iface "*errors.errorString" (.ptr (.agg [.lit (.string [105, 110, 99, 111, 114, 114, 101, 99, 116, 32, 102, 105, 101, 108, 100, 32, 101, 108, 101, 109, 101, 110, 116, 32, 118, 97, 108, 117, 101])]))
def laid_loop_example_pub_g03033_pub_circl_vdaf_fp128_ErrMatchLen {H : Type} : DataW H := .iface "*errors.errorString" (.ptr (.agg [.lit (.string [105, 110, 112, 117, 116, 115, 32, 109, 105, 115, 109, 97, 116, 99, 104, 101, 100, 32, 108, 101, 110, 103, 116, 104])]))
def laid_math_bits_deBruijn32tab {H : Type} : DataW H := .agg [.lit (.int .u8 0), .lit (.int .u8 1), .lit (.int .u8 28), .lit (.int .u8 2), .lit (.int .u8 29), .lit (.int .u8 14), .lit (.int .u8 24), .lit (.int .u8 3), .lit (.int .u8 30), .lit (.int .u8 22), .lit (.int .u8 20), .lit (.int .u8 15), .lit (.int .u8 25), .lit (.int .u8 17), .lit (.int .u8 4), .lit (.int .u8 8), .lit (.int .u8 31), .lit (.int .u8 27), .lit (.int .u8 13), .lit (.int .u8 23), .lit (.int .u8 21), .lit (.int .u8 19), .lit (.int .u8 16), .lit (.int .u8 7), .lit (.int .u8 26), .lit (.int .u8 12), .lit (.int .u8 18), .lit (.int .u8 6), .lit (.int .u8 11), .lit (.int .u8 5), .lit (.int .u8 10), .lit (.int .u8 9)]
def laid_math_bits_deBruijn64tab {H : Type} : DataW H := .agg [.lit (.int .u8 0), .lit (.int .u8 1), .lit (.int .u8 56), .lit (.int .u8 2), .lit (.int .u8 57), .lit (.int .u8 49), .lit (.int .u8 28), .lit (.int .u8 3), .lit (.int .u8 61), .lit (.int .u8 58), .lit (.int .u8 42), .lit (.int .u8 50), .lit (.int .u8 38), .lit (.int .u8 29), .lit (.int .u8 17), .lit (.int .u8 4), .lit (.int .u8 62), .lit (.int .u8 47), .lit (.int .u8 59), .lit (.int .u8 36), .lit (.int .u8 45), .lit (.int .u8 43), .lit (.int .u8 51), .lit (.int .u8 22), .lit (.int .u8 53), .lit (.int .u8 39), .lit (.int .u8 33), .lit (.int .u8 30), .lit (.int .u8 24), .lit (.int .u8 18), .lit (.int .u8 12), .lit (.int .u8 5), .lit (.int .u8 63), .lit (.int .u8 55), .lit (.int .u8 48), .lit (.int .u8 27), .lit (.int .u8 60), .lit (.int .u8 41), .lit (.int .u8 37), .lit (.int .u8 16), .lit (.int .u8 46), .lit (.int .u8 35), .lit (.int .u8 44), .lit (.int .u8 21), .lit (.int .u8 52), .lit (.int .u8 32), .lit (.int .u8 23), .lit (.int .u8 11), .lit (.int .u8 54), .lit (.int .u8 26), .lit (.int .u8 40), .lit (.int .u8 15), .lit (.int .u8 34), .lit (.int .u8 20), .lit (.int .u8 31), .lit (.int .u8 10), .lit (.int .u8 25), .lit (.int .u8 14), .lit (.int .u8 19), .lit (.int .u8 9), .lit (.int .u8 13), .lit (.int .u8 8), .lit (.int .u8 7), .lit (.int .u8 6)]

/-- 'laws.FnRoot128': WHATEVER THE INPUT: true; the input reads as it did. -/
def fnRoot128Spec : ChangeSpec := { name := "fnRoot128", vars := ["loop.example/pub-g03033/pub/circl/vdaf/fp128.ErrRootsOfUnity", "loop.example/pub-g03033/pub/circl/vdaf/fp128.rootOfUnityTwoN"], fn := fun _ => fun
  | [d, g1, g2] => { results := [.lit (.bool true)], args := [d], vars := [g1, g2] }
  | _ => none }
def fnRoot128Row : OpenClaim := { program := "ytgdfdkpkhjbibaadoor", sum := "205ee2d08b1110841f9e3f5dffeabd8114af3ca70b304d3d40f484e71baa08c9", func := "loop.example/pub-g03033/laws.FnRoot128", spec := "fnRoot128", inPlace := ["math/bits.Add64", "math/bits.Sub64"], named := ["loop.example/pub-g03033/pub/circl/vdaf/fp128.ErrRootsOfUnity", "loop.example/pub-g03033/pub/circl/vdaf/fp128.rootOfUnityTwoN", "encoding/binary.LittleEndian"], ifaces := true, apart := false, laid := [("loop.example/pub-g03033/pub/circl/vdaf/fp128.rootOfUnityTwoN", laid_loop_example_pub_g03033_pub_circl_vdaf_fp128_rootOfUnityTwoN), ("loop.example/pub-g03033/pub/circl/vdaf/fp128.ErrRootsOfUnity", laid_loop_example_pub_g03033_pub_circl_vdaf_fp128_ErrRootsOfUnity)] }
def FnRoot128Said : Prop := fnRoot128Row.holds Tryd.pinned (OpenSpec.ofChange fnRoot128Spec)

/-- ITS FALSE NEIGHBOUR: 'it returns false'. Refute it at one input. -/
def fnRoot128Wrong : ChangeSpec := { name := "fnRoot128", vars := ["loop.example/pub-g03033/pub/circl/vdaf/fp128.ErrRootsOfUnity", "loop.example/pub-g03033/pub/circl/vdaf/fp128.rootOfUnityTwoN"], fn := fun _ => fun
  | [d, g1, g2] => { results := [.lit (.bool false)], args := [d], vars := [g1, g2] }
  | _ => none }
def FnRoot128WrongFalsely : Prop := fnRoot128Row.holds Tryd.pinned (OpenSpec.ofChange fnRoot128Wrong)

/-- 'laws.FnTells128': WHATEVER THE INPUT: true; the input reads as it did. -/
def fnTells128Spec : ChangeSpec := { name := "fnTells128", vars := ["loop.example/pub-g03033/pub/circl/vdaf/fp128.rSquare", "loop.example/pub-g03033/pub/circl/vdaf/fp128.rootOfUnityTwoN"], fn := fun _ => fun
  | [d1, d2, g1, g2] => { results := [.lit (.bool true)], args := [d1, d2], vars := [g1, g2] }
  | _ => none }
def fnTells128Row : OpenClaim := { program := "ytgdfdkpkhjbibaadoor", sum := "205ee2d08b1110841f9e3f5dffeabd8114af3ca70b304d3d40f484e71baa08c9", func := "loop.example/pub-g03033/laws.FnTells128", spec := "fnTells128", inPlace := ["math/bits.Add64", "math/bits.Sub64", "crypto/internal/constanttime.boolToUint8"], named := ["encoding/binary.LittleEndian", "loop.example/pub-g03033/pub/circl/vdaf/fp128.rSquare", "loop.example/pub-g03033/pub/circl/vdaf/fp128.rootOfUnityTwoN"], apart := false, laid := [("loop.example/pub-g03033/pub/circl/vdaf/fp128.rSquare", laid_loop_example_pub_g03033_pub_circl_vdaf_fp128_rSquare), ("loop.example/pub-g03033/pub/circl/vdaf/fp128.rootOfUnityTwoN", laid_loop_example_pub_g03033_pub_circl_vdaf_fp128_rootOfUnityTwoN)] }
def FnTells128Said : Prop := fnTells128Row.holds Tryd.pinned (OpenSpec.ofChange fnTells128Spec)

/-- ITS FALSE NEIGHBOUR: 'it returns false'. Refute it at one input. -/
def fnTells128Wrong : ChangeSpec := { name := "fnTells128", vars := ["loop.example/pub-g03033/pub/circl/vdaf/fp128.rSquare", "loop.example/pub-g03033/pub/circl/vdaf/fp128.rootOfUnityTwoN"], fn := fun _ => fun
  | [d1, d2, g1, g2] => { results := [.lit (.bool false)], args := [d1, d2], vars := [g1, g2] }
  | _ => none }
def FnTells128WrongFalsely : Prop := fnTells128Row.holds Tryd.pinned (OpenSpec.ofChange fnTells128Wrong)

/-- 'laws.FnOf128': WHATEVER THE INPUT: true; the input reads as it did. -/
def fnOf128Spec : ChangeSpec := { name := "fnOf128", vars := ["loop.example/pub-g03033/pub/circl/vdaf/fp128.rSquare", "loop.example/pub-g03033/pub/circl/vdaf/fp128.ErrNumberTooLarge"], fn := fun _ => fun
  | [d1, d2, g1, g2] => { results := [.lit (.bool true)], args := [d1, d2], vars := [g1, g2] }
  | _ => none }
def fnOf128Row : OpenClaim := { program := "ytgdfdkpkhjbibaadoor", sum := "205ee2d08b1110841f9e3f5dffeabd8114af3ca70b304d3d40f484e71baa08c9", func := "loop.example/pub-g03033/laws.FnOf128", spec := "fnOf128", inPlace := ["math/bits.Add64", "math/bits.Sub64"], named := ["loop.example/pub-g03033/pub/circl/vdaf/fp128.rSquare", "encoding/binary.LittleEndian", "loop.example/pub-g03033/pub/circl/vdaf/fp128.ErrNumberTooLarge"], ifaces := true, apart := false, laid := [("loop.example/pub-g03033/pub/circl/vdaf/fp128.rSquare", laid_loop_example_pub_g03033_pub_circl_vdaf_fp128_rSquare), ("loop.example/pub-g03033/pub/circl/vdaf/fp128.ErrNumberTooLarge", laid_loop_example_pub_g03033_pub_circl_vdaf_fp128_ErrNumberTooLarge)] }
def FnOf128Said : Prop := fnOf128Row.holds Tryd.pinned (OpenSpec.ofChange fnOf128Spec)

/-- ITS FALSE NEIGHBOUR: 'it returns false'. Refute it at one input. -/
def fnOf128Wrong : ChangeSpec := { name := "fnOf128", vars := ["loop.example/pub-g03033/pub/circl/vdaf/fp128.rSquare", "loop.example/pub-g03033/pub/circl/vdaf/fp128.ErrNumberTooLarge"], fn := fun _ => fun
  | [d1, d2, g1, g2] => { results := [.lit (.bool false)], args := [d1, d2], vars := [g1, g2] }
  | _ => none }
def FnOf128WrongFalsely : Prop := fnOf128Row.holds Tryd.pinned (OpenSpec.ofChange fnOf128Wrong)

/-- 'laws.FnRing128': WHATEVER THE INPUT: true; the input reads as it did. -/
def fnRing128Spec : ChangeSpec := { name := "fnRing128", vars := ["loop.example/pub-g03033/pub/circl/vdaf/fp128.rSquare"], fn := fun _ => fun
  | [d1, d2, d3, g1] => { results := [.lit (.bool true)], args := [d1, d2, d3], vars := [g1] }
  | _ => none }
def fnRing128Row : OpenClaim := { program := "ytgdfdkpkhjbibaadoor", sum := "205ee2d08b1110841f9e3f5dffeabd8114af3ca70b304d3d40f484e71baa08c9", func := "loop.example/pub-g03033/laws.FnRing128", spec := "fnRing128", inPlace := ["math/bits.Add64", "math/bits.Sub64"], named := ["encoding/binary.LittleEndian", "loop.example/pub-g03033/pub/circl/vdaf/fp128.rSquare"], apart := false, laid := [("loop.example/pub-g03033/pub/circl/vdaf/fp128.rSquare", laid_loop_example_pub_g03033_pub_circl_vdaf_fp128_rSquare)] }
def FnRing128Said : Prop := fnRing128Row.holds Tryd.pinned (OpenSpec.ofChange fnRing128Spec)

/-- ITS FALSE NEIGHBOUR: 'it returns false'. Refute it at one input. -/
def fnRing128Wrong : ChangeSpec := { name := "fnRing128", vars := ["loop.example/pub-g03033/pub/circl/vdaf/fp128.rSquare"], fn := fun _ => fun
  | [d1, d2, d3, g1] => { results := [.lit (.bool false)], args := [d1, d2, d3], vars := [g1] }
  | _ => none }
def FnRing128WrongFalsely : Prop := fnRing128Row.holds Tryd.pinned (OpenSpec.ofChange fnRing128Wrong)

/-- 'laws.FnStrip128': WHATEVER THE INPUT: true; the input reads as it did. -/
def fnStrip128Spec : ChangeSpec := { name := "fnStrip128", vars := ["loop.example/pub-g03033/pub/circl/vdaf/fp128.rSquare"], fn := fun _ => fun
  | [d, g1] => { results := [.lit (.bool true)], args := [d], vars := [g1] }
  | _ => none }
def fnStrip128Row : OpenClaim := { program := "ytgdfdkpkhjbibaadoor", sum := "205ee2d08b1110841f9e3f5dffeabd8114af3ca70b304d3d40f484e71baa08c9", func := "loop.example/pub-g03033/laws.FnStrip128", spec := "fnStrip128", inPlace := ["math/bits.Add64", "math/bits.Sub64", "crypto/internal/constanttime.boolToUint8"], named := ["encoding/binary.LittleEndian", "loop.example/pub-g03033/pub/circl/vdaf/fp128.rSquare"], apart := false, laid := [("loop.example/pub-g03033/pub/circl/vdaf/fp128.rSquare", laid_loop_example_pub_g03033_pub_circl_vdaf_fp128_rSquare)] }
def FnStrip128Said : Prop := fnStrip128Row.holds Tryd.pinned (OpenSpec.ofChange fnStrip128Spec)

/-- ITS FALSE NEIGHBOUR: 'it returns false'. Refute it at one input. -/
def fnStrip128Wrong : ChangeSpec := { name := "fnStrip128", vars := ["loop.example/pub-g03033/pub/circl/vdaf/fp128.rSquare"], fn := fun _ => fun
  | [d, g1] => { results := [.lit (.bool false)], args := [d], vars := [g1] }
  | _ => none }
def FnStrip128WrongFalsely : Prop := fnStrip128Row.holds Tryd.pinned (OpenSpec.ofChange fnStrip128Wrong)

/-- 'laws.FnEvaluate128': WHATEVER THE INPUT: true; the input reads as it did. -/
def fnEvaluate128Spec : ChangeSpec := { name := "fnEvaluate128", vars := ["loop.example/pub-g03033/pub/circl/vdaf/fp128.rSquare"], fn := fun _ => fun
  | [d1, d2, g1] => { results := [.lit (.bool true)], args := [d1, d2], vars := [g1] }
  | _ => none }
def fnEvaluate128Row : OpenClaim := { program := "ytgdfdkpkhjbibaadoor", sum := "205ee2d08b1110841f9e3f5dffeabd8114af3ca70b304d3d40f484e71baa08c9", func := "loop.example/pub-g03033/laws.FnEvaluate128", spec := "fnEvaluate128", inPlace := ["math/bits.Add64", "math/bits.Sub64"], named := ["encoding/binary.LittleEndian", "loop.example/pub-g03033/pub/circl/vdaf/fp128.rSquare"], apart := false, laid := [("loop.example/pub-g03033/pub/circl/vdaf/fp128.rSquare", laid_loop_example_pub_g03033_pub_circl_vdaf_fp128_rSquare)] }
def FnEvaluate128Said : Prop := fnEvaluate128Row.holds Tryd.pinned (OpenSpec.ofChange fnEvaluate128Spec)

/-- ITS FALSE NEIGHBOUR: 'it returns false'. Refute it at one input. -/
def fnEvaluate128Wrong : ChangeSpec := { name := "fnEvaluate128", vars := ["loop.example/pub-g03033/pub/circl/vdaf/fp128.rSquare"], fn := fun _ => fun
  | [d1, d2, g1] => { results := [.lit (.bool false)], args := [d1, d2], vars := [g1] }
  | _ => none }
def FnEvaluate128WrongFalsely : Prop := fnEvaluate128Row.holds Tryd.pinned (OpenSpec.ofChange fnEvaluate128Wrong)

/-- 'laws.FnAdd128Is': WHATEVER THE INPUT: true; the input reads as it did. -/
def fnAdd128IsSpec : ChangeSpec := { name := "fnAdd128Is", vars := ["loop.example/pub-g03033/pub/circl/vdaf/fp128.rSquare"], fn := fun _ => fun
  | [d1, d2, g1] => { results := [.lit (.bool true)], args := [d1, d2], vars := [g1] }
  | _ => none }
def fnAdd128IsRow : OpenClaim := { program := "ytgdfdkpkhjbibaadoor", sum := "205ee2d08b1110841f9e3f5dffeabd8114af3ca70b304d3d40f484e71baa08c9", func := "loop.example/pub-g03033/laws.FnAdd128Is", spec := "fnAdd128Is", inPlace := ["math/bits.Add64", "math/bits.Sub64"], named := ["encoding/binary.LittleEndian", "loop.example/pub-g03033/pub/circl/vdaf/fp128.rSquare"], apart := false, laid := [("loop.example/pub-g03033/pub/circl/vdaf/fp128.rSquare", laid_loop_example_pub_g03033_pub_circl_vdaf_fp128_rSquare)] }
def FnAdd128IsSaid : Prop := fnAdd128IsRow.holds Tryd.pinned (OpenSpec.ofChange fnAdd128IsSpec)

/-- ITS FALSE NEIGHBOUR: 'it returns false'. Refute it at one input. -/
def fnAdd128IsWrong : ChangeSpec := { name := "fnAdd128Is", vars := ["loop.example/pub-g03033/pub/circl/vdaf/fp128.rSquare"], fn := fun _ => fun
  | [d1, d2, g1] => { results := [.lit (.bool false)], args := [d1, d2], vars := [g1] }
  | _ => none }
def FnAdd128IsWrongFalsely : Prop := fnAdd128IsRow.holds Tryd.pinned (OpenSpec.ofChange fnAdd128IsWrong)

/-- 'laws.FnJoin128Is': WHATEVER THE INPUT: true; the input reads as it did. -/
def fnJoin128IsSpec : ChangeSpec := { name := "fnJoin128Is", vars := ["loop.example/pub-g03033/pub/circl/vdaf/fp128.rSquare"], fn := fun _ => fun
  | [d, g1] => { results := [.lit (.bool true)], args := [d], vars := [g1] }
  | _ => none }
def fnJoin128IsRow : OpenClaim := { program := "ytgdfdkpkhjbibaadoor", sum := "205ee2d08b1110841f9e3f5dffeabd8114af3ca70b304d3d40f484e71baa08c9", func := "loop.example/pub-g03033/laws.FnJoin128Is", spec := "fnJoin128Is", inPlace := ["math/bits.Add64", "math/bits.Sub64"], named := ["encoding/binary.LittleEndian", "loop.example/pub-g03033/pub/circl/vdaf/fp128.rSquare"], apart := false, laid := [("loop.example/pub-g03033/pub/circl/vdaf/fp128.rSquare", laid_loop_example_pub_g03033_pub_circl_vdaf_fp128_rSquare)] }
def FnJoin128IsSaid : Prop := fnJoin128IsRow.holds Tryd.pinned (OpenSpec.ofChange fnJoin128IsSpec)

/-- ITS FALSE NEIGHBOUR: 'it returns false'. Refute it at one input. -/
def fnJoin128IsWrong : ChangeSpec := { name := "fnJoin128Is", vars := ["loop.example/pub-g03033/pub/circl/vdaf/fp128.rSquare"], fn := fun _ => fun
  | [d, g1] => { results := [.lit (.bool false)], args := [d], vars := [g1] }
  | _ => none }
def FnJoin128IsWrongFalsely : Prop := fnJoin128IsRow.holds Tryd.pinned (OpenSpec.ofChange fnJoin128IsWrong)

/-- 'laws.FnMul128Is': WHATEVER THE INPUT: true; the input reads as it did. -/
def fnMul128IsSpec : ChangeSpec := { name := "fnMul128Is", vars := ["loop.example/pub-g03033/pub/circl/vdaf/fp128.rSquare"], fn := fun _ => fun
  | [d1, d2, g1] => { results := [.lit (.bool true)], args := [d1, d2], vars := [g1] }
  | _ => none }
def fnMul128IsRow : OpenClaim := { program := "ytgdfdkpkhjbibaadoor", sum := "205ee2d08b1110841f9e3f5dffeabd8114af3ca70b304d3d40f484e71baa08c9", func := "loop.example/pub-g03033/laws.FnMul128Is", spec := "fnMul128Is", inPlace := ["math/bits.Add64", "math/bits.Sub64"], named := ["encoding/binary.LittleEndian", "loop.example/pub-g03033/pub/circl/vdaf/fp128.rSquare"], apart := false, laid := [("loop.example/pub-g03033/pub/circl/vdaf/fp128.rSquare", laid_loop_example_pub_g03033_pub_circl_vdaf_fp128_rSquare)] }
def FnMul128IsSaid : Prop := fnMul128IsRow.holds Tryd.pinned (OpenSpec.ofChange fnMul128IsSpec)

/-- ITS FALSE NEIGHBOUR: 'it returns false'. Refute it at one input. -/
def fnMul128IsWrong : ChangeSpec := { name := "fnMul128Is", vars := ["loop.example/pub-g03033/pub/circl/vdaf/fp128.rSquare"], fn := fun _ => fun
  | [d1, d2, g1] => { results := [.lit (.bool false)], args := [d1, d2], vars := [g1] }
  | _ => none }
def FnMul128IsWrongFalsely : Prop := fnMul128IsRow.holds Tryd.pinned (OpenSpec.ofChange fnMul128IsWrong)

/-- 'laws.FnOrder128': WHATEVER THE INPUT: true; the input reads as it did. -/
def fnOrder128Spec : ChangeSpec := { name := "fnOrder128", vars := ["loop.example/pub-g03033/pub/circl/vdaf/fp128.rSquare"], fn := fun _ => fun
  | [d, g1] => { results := [.lit (.bool true)], args := [d], vars := [g1] }
  | _ => none }
def fnOrder128Row : OpenClaim := { program := "ytgdfdkpkhjbibaadoor", sum := "205ee2d08b1110841f9e3f5dffeabd8114af3ca70b304d3d40f484e71baa08c9", func := "loop.example/pub-g03033/laws.FnOrder128", spec := "fnOrder128", inPlace := ["math/bits.Add64", "math/bits.Sub64"], named := ["encoding/binary.BigEndian", "encoding/binary.LittleEndian", "loop.example/pub-g03033/pub/circl/vdaf/fp128.rSquare"], apart := false, laid := [("loop.example/pub-g03033/pub/circl/vdaf/fp128.rSquare", laid_loop_example_pub_g03033_pub_circl_vdaf_fp128_rSquare)] }
def FnOrder128Said : Prop := fnOrder128Row.holds Tryd.pinned (OpenSpec.ofChange fnOrder128Spec)

/-- ITS FALSE NEIGHBOUR: 'it returns false'. Refute it at one input. -/
def fnOrder128Wrong : ChangeSpec := { name := "fnOrder128", vars := ["loop.example/pub-g03033/pub/circl/vdaf/fp128.rSquare"], fn := fun _ => fun
  | [d, g1] => { results := [.lit (.bool false)], args := [d], vars := [g1] }
  | _ => none }
def FnOrder128WrongFalsely : Prop := fnOrder128Row.holds Tryd.pinned (OpenSpec.ofChange fnOrder128Wrong)

/-- 'laws.FnRootRoad128': WHATEVER THE INPUT: true; the input reads as it did. -/
def fnRootRoad128Spec : ChangeSpec := { name := "fnRootRoad128", vars := ["loop.example/pub-g03033/pub/circl/vdaf/fp128.ErrRootsOfUnity", "loop.example/pub-g03033/pub/circl/vdaf/fp128.rootOfUnityTwoN", "loop.example/pub-g03033/pub/circl/vdaf/fp128.rSquare"], fn := fun _ => fun
  | [d, g1, g2, g3] => { results := [.lit (.bool true)], args := [d], vars := [g1, g2, g3] }
  | _ => none }
def fnRootRoad128Row : OpenClaim := { program := "ytgdfdkpkhjbibaadoor", sum := "205ee2d08b1110841f9e3f5dffeabd8114af3ca70b304d3d40f484e71baa08c9", func := "loop.example/pub-g03033/laws.FnRootRoad128", spec := "fnRootRoad128", inPlace := ["math/bits.Add64", "math/bits.Sub64"], named := ["loop.example/pub-g03033/pub/circl/vdaf/fp128.ErrRootsOfUnity", "loop.example/pub-g03033/pub/circl/vdaf/fp128.rootOfUnityTwoN", "encoding/binary.LittleEndian", "loop.example/pub-g03033/pub/circl/vdaf/fp128.rSquare"], ifaces := true, apart := false, laid := [("loop.example/pub-g03033/pub/circl/vdaf/fp128.rSquare", laid_loop_example_pub_g03033_pub_circl_vdaf_fp128_rSquare), ("loop.example/pub-g03033/pub/circl/vdaf/fp128.rootOfUnityTwoN", laid_loop_example_pub_g03033_pub_circl_vdaf_fp128_rootOfUnityTwoN), ("loop.example/pub-g03033/pub/circl/vdaf/fp128.ErrRootsOfUnity", laid_loop_example_pub_g03033_pub_circl_vdaf_fp128_ErrRootsOfUnity)] }
def FnRootRoad128Said : Prop := fnRootRoad128Row.holds Tryd.pinned (OpenSpec.ofChange fnRootRoad128Spec)

/-- ITS FALSE NEIGHBOUR: 'it returns false'. Refute it at one input. -/
def fnRootRoad128Wrong : ChangeSpec := { name := "fnRootRoad128", vars := ["loop.example/pub-g03033/pub/circl/vdaf/fp128.ErrRootsOfUnity", "loop.example/pub-g03033/pub/circl/vdaf/fp128.rootOfUnityTwoN", "loop.example/pub-g03033/pub/circl/vdaf/fp128.rSquare"], fn := fun _ => fun
  | [d, g1, g2, g3] => { results := [.lit (.bool false)], args := [d], vars := [g1, g2, g3] }
  | _ => none }
def FnRootRoad128WrongFalsely : Prop := fnRootRoad128Row.holds Tryd.pinned (OpenSpec.ofChange fnRootRoad128Wrong)

/-- 'laws.FnBits128': WHATEVER THE INPUT: true; the input reads as it did. -/
def fnBits128Spec : ChangeSpec := { name := "fnBits128", vars := ["loop.example/pub-g03033/pub/circl/vdaf/fp128.ErrNumberTooLarge", "loop.example/pub-g03033/pub/circl/vdaf/fp128.rootOfUnityTwoN", "loop.example/pub-g03033/pub/circl/vdaf/fp128.rSquare"], fn := fun _ => fun
  | [d1, d2, g1, g2, g3] => { results := [.lit (.bool true)], args := [d1, d2], vars := [g1, g2, g3] }
  | _ => none }
def fnBits128Row : OpenClaim := { program := "ytgdfdkpkhjbibaadoor", sum := "205ee2d08b1110841f9e3f5dffeabd8114af3ca70b304d3d40f484e71baa08c9", func := "loop.example/pub-g03033/laws.FnBits128", spec := "fnBits128", inPlace := ["math/bits.Add64", "math/bits.Sub64"], named := ["loop.example/pub-g03033/pub/circl/vdaf/fp128.ErrNumberTooLarge", "loop.example/pub-g03033/pub/circl/vdaf/fp128.rootOfUnityTwoN", "encoding/binary.LittleEndian", "loop.example/pub-g03033/pub/circl/vdaf/fp128.rSquare"], ifaces := true, apart := false, laid := [("loop.example/pub-g03033/pub/circl/vdaf/fp128.rSquare", laid_loop_example_pub_g03033_pub_circl_vdaf_fp128_rSquare), ("loop.example/pub-g03033/pub/circl/vdaf/fp128.rootOfUnityTwoN", laid_loop_example_pub_g03033_pub_circl_vdaf_fp128_rootOfUnityTwoN), ("loop.example/pub-g03033/pub/circl/vdaf/fp128.ErrNumberTooLarge", laid_loop_example_pub_g03033_pub_circl_vdaf_fp128_ErrNumberTooLarge)] }
def FnBits128Said : Prop := fnBits128Row.holds Tryd.pinned (OpenSpec.ofChange fnBits128Spec)

/-- ITS FALSE NEIGHBOUR: 'it returns false'. Refute it at one input. -/
def fnBits128Wrong : ChangeSpec := { name := "fnBits128", vars := ["loop.example/pub-g03033/pub/circl/vdaf/fp128.ErrNumberTooLarge", "loop.example/pub-g03033/pub/circl/vdaf/fp128.rootOfUnityTwoN", "loop.example/pub-g03033/pub/circl/vdaf/fp128.rSquare"], fn := fun _ => fun
  | [d1, d2, g1, g2, g3] => { results := [.lit (.bool false)], args := [d1, d2], vars := [g1, g2, g3] }
  | _ => none }
def FnBits128WrongFalsely : Prop := fnBits128Row.holds Tryd.pinned (OpenSpec.ofChange fnBits128Wrong)

/-- 'laws.FnInvOf128': WHATEVER THE INPUT: true; the input reads as it did. -/
def fnInvOf128Spec : ChangeSpec := { name := "fnInvOf128", vars := ["loop.example/pub-g03033/pub/circl/vdaf/fp128.inverseInt", "loop.example/pub-g03033/pub/circl/vdaf/fp128.ErrFieldEltDecode", "loop.example/pub-g03033/pub/circl/vdaf/fp128.rSquare", "loop.example/pub-g03033/pub/circl/vdaf/fp128.half", "loop.example/pub-g03033/pub/circl/vdaf/fp128.rootOfUnityTwoN"], fn := fun _ => fun
  | [d1, d2, g1, g2, g3, g4, g5] => { results := [.lit (.bool true)], args := [d1, d2], vars := [g1, g2, g3, g4, g5] }
  | _ => none }
def fnInvOf128Row : OpenClaim := { program := "ytgdfdkpkhjbibaadoor", sum := "205ee2d08b1110841f9e3f5dffeabd8114af3ca70b304d3d40f484e71baa08c9", func := "loop.example/pub-g03033/laws.FnInvOf128", spec := "fnInvOf128", inPlace := ["math/bits.Add64", "math/bits.Sub64"], named := ["loop.example/pub-g03033/pub/circl/vdaf/fp128.inverseInt", "loop.example/pub-g03033/pub/circl/vdaf/fp128.ErrFieldEltDecode", "loop.example/pub-g03033/pub/circl/vdaf/fp128.rSquare", "encoding/binary.LittleEndian", "loop.example/pub-g03033/pub/circl/vdaf/fp128.half", "loop.example/pub-g03033/pub/circl/vdaf/fp128.rootOfUnityTwoN"], ifaces := true, apart := false, laid := [("loop.example/pub-g03033/pub/circl/vdaf/fp128.rSquare", laid_loop_example_pub_g03033_pub_circl_vdaf_fp128_rSquare), ("loop.example/pub-g03033/pub/circl/vdaf/fp128.half", laid_loop_example_pub_g03033_pub_circl_vdaf_fp128_half), ("loop.example/pub-g03033/pub/circl/vdaf/fp128.rootOfUnityTwoN", laid_loop_example_pub_g03033_pub_circl_vdaf_fp128_rootOfUnityTwoN), ("loop.example/pub-g03033/pub/circl/vdaf/fp128.inverseInt", laid_loop_example_pub_g03033_pub_circl_vdaf_fp128_inverseInt), ("loop.example/pub-g03033/pub/circl/vdaf/fp128.ErrFieldEltDecode", laid_loop_example_pub_g03033_pub_circl_vdaf_fp128_ErrFieldEltDecode)] }
def FnInvOf128Said : Prop := fnInvOf128Row.holds Tryd.pinned (OpenSpec.ofChange fnInvOf128Spec)

/-- ITS FALSE NEIGHBOUR: 'it returns false'. Refute it at one input. -/
def fnInvOf128Wrong : ChangeSpec := { name := "fnInvOf128", vars := ["loop.example/pub-g03033/pub/circl/vdaf/fp128.inverseInt", "loop.example/pub-g03033/pub/circl/vdaf/fp128.ErrFieldEltDecode", "loop.example/pub-g03033/pub/circl/vdaf/fp128.rSquare", "loop.example/pub-g03033/pub/circl/vdaf/fp128.half", "loop.example/pub-g03033/pub/circl/vdaf/fp128.rootOfUnityTwoN"], fn := fun _ => fun
  | [d1, d2, g1, g2, g3, g4, g5] => { results := [.lit (.bool false)], args := [d1, d2], vars := [g1, g2, g3, g4, g5] }
  | _ => none }
def FnInvOf128WrongFalsely : Prop := fnInvOf128Row.holds Tryd.pinned (OpenSpec.ofChange fnInvOf128Wrong)

/-- 'laws.FnInv128': WHATEVER THE INPUT: true; the input reads as it did. -/
def fnInv128Spec : ChangeSpec := { name := "fnInv128", vars := ["loop.example/pub-g03033/pub/circl/vdaf/fp128.rSquare", "loop.example/pub-g03033/pub/circl/vdaf/fp128.rootOfUnityTwoN"], fn := fun _ => fun
  | [d, g1, g2] => { results := [.lit (.bool true)], args := [d], vars := [g1, g2] }
  | _ => none }
def fnInv128Row : OpenClaim := { program := "ytgdfdkpkhjbibaadoor", sum := "205ee2d08b1110841f9e3f5dffeabd8114af3ca70b304d3d40f484e71baa08c9", func := "loop.example/pub-g03033/laws.FnInv128", spec := "fnInv128", inPlace := ["math/bits.Add64", "math/bits.Sub64"], named := ["encoding/binary.LittleEndian", "loop.example/pub-g03033/pub/circl/vdaf/fp128.rSquare", "loop.example/pub-g03033/pub/circl/vdaf/fp128.rootOfUnityTwoN"], apart := false, laid := [("loop.example/pub-g03033/pub/circl/vdaf/fp128.rSquare", laid_loop_example_pub_g03033_pub_circl_vdaf_fp128_rSquare), ("loop.example/pub-g03033/pub/circl/vdaf/fp128.rootOfUnityTwoN", laid_loop_example_pub_g03033_pub_circl_vdaf_fp128_rootOfUnityTwoN)] }
def FnInv128Said : Prop := fnInv128Row.holds Tryd.pinned (OpenSpec.ofChange fnInv128Spec)

/-- ITS FALSE NEIGHBOUR: 'it returns false'. Refute it at one input. -/
def fnInv128Wrong : ChangeSpec := { name := "fnInv128", vars := ["loop.example/pub-g03033/pub/circl/vdaf/fp128.rSquare", "loop.example/pub-g03033/pub/circl/vdaf/fp128.rootOfUnityTwoN"], fn := fun _ => fun
  | [d, g1, g2] => { results := [.lit (.bool false)], args := [d], vars := [g1, g2] }
  | _ => none }
def FnInv128WrongFalsely : Prop := fnInv128Row.holds Tryd.pinned (OpenSpec.ofChange fnInv128Wrong)

/-- 'laws.FnVec128Is': WHATEVER THE INPUT: true; the input reads as it did. -/
def fnVec128IsSpec : ChangeSpec := { name := "fnVec128Is", vars := ["loop.example/pub-g03033/pub/circl/vdaf/fp128.rSquare", "loop.example/pub-g03033/pub/circl/vdaf/fp128.ErrMatchLen"], fn := fun _ => fun
  | [d1, d2, d3, g1, g2] => { results := [.lit (.bool true)], args := [d1, d2, d3], vars := [g1, g2] }
  | _ => none }
def fnVec128IsRow : OpenClaim := { program := "ytgdfdkpkhjbibaadoor", sum := "205ee2d08b1110841f9e3f5dffeabd8114af3ca70b304d3d40f484e71baa08c9", func := "loop.example/pub-g03033/laws.FnVec128Is", spec := "fnVec128Is", inPlace := ["math/bits.Add64", "math/bits.Sub64"], named := ["encoding/binary.LittleEndian", "loop.example/pub-g03033/pub/circl/vdaf/fp128.rSquare", "loop.example/pub-g03033/pub/circl/vdaf/fp128.ErrMatchLen"], ifaces := true, apart := false, laid := [("loop.example/pub-g03033/pub/circl/vdaf/fp128.rSquare", laid_loop_example_pub_g03033_pub_circl_vdaf_fp128_rSquare), ("loop.example/pub-g03033/pub/circl/vdaf/fp128.ErrMatchLen", laid_loop_example_pub_g03033_pub_circl_vdaf_fp128_ErrMatchLen)] }
def FnVec128IsSaid : Prop := fnVec128IsRow.holds Tryd.pinned (OpenSpec.ofChange fnVec128IsSpec)

/-- ITS FALSE NEIGHBOUR: 'it returns false'. Refute it at one input. -/
def fnVec128IsWrong : ChangeSpec := { name := "fnVec128Is", vars := ["loop.example/pub-g03033/pub/circl/vdaf/fp128.rSquare", "loop.example/pub-g03033/pub/circl/vdaf/fp128.ErrMatchLen"], fn := fun _ => fun
  | [d1, d2, d3, g1, g2] => { results := [.lit (.bool false)], args := [d1, d2, d3], vars := [g1, g2] }
  | _ => none }
def FnVec128IsWrongFalsely : Prop := fnVec128IsRow.holds Tryd.pinned (OpenSpec.ofChange fnVec128IsWrong)

/-- 'laws.FnPolySqr128': WHATEVER THE INPUT: true; the input reads as it did. -/
def fnPolySqr128Spec : ChangeSpec := { name := "fnPolySqr128", vars := ["loop.example/pub-g03033/pub/circl/vdaf/fp128.rSquare", "loop.example/pub-g03033/pub/circl/vdaf/fp128.ErrMatchLen"], fn := fun _ => fun
  | [d, g1, g2] => { results := [.lit (.bool true)], args := [d], vars := [g1, g2] }
  | _ => none }
def fnPolySqr128Row : OpenClaim := { program := "ytgdfdkpkhjbibaadoor", sum := "205ee2d08b1110841f9e3f5dffeabd8114af3ca70b304d3d40f484e71baa08c9", func := "loop.example/pub-g03033/laws.FnPolySqr128", spec := "fnPolySqr128", inPlace := ["math/bits.Add64", "math/bits.Sub64"], named := ["encoding/binary.LittleEndian", "loop.example/pub-g03033/pub/circl/vdaf/fp128.rSquare", "loop.example/pub-g03033/pub/circl/vdaf/fp128.ErrMatchLen"], ifaces := true, apart := false, laid := [("loop.example/pub-g03033/pub/circl/vdaf/fp128.rSquare", laid_loop_example_pub_g03033_pub_circl_vdaf_fp128_rSquare), ("loop.example/pub-g03033/pub/circl/vdaf/fp128.ErrMatchLen", laid_loop_example_pub_g03033_pub_circl_vdaf_fp128_ErrMatchLen)] }
def FnPolySqr128Said : Prop := fnPolySqr128Row.holds Tryd.pinned (OpenSpec.ofChange fnPolySqr128Spec)

/-- ITS FALSE NEIGHBOUR: 'it returns false'. Refute it at one input. -/
def fnPolySqr128Wrong : ChangeSpec := { name := "fnPolySqr128", vars := ["loop.example/pub-g03033/pub/circl/vdaf/fp128.rSquare", "loop.example/pub-g03033/pub/circl/vdaf/fp128.ErrMatchLen"], fn := fun _ => fun
  | [d, g1, g2] => { results := [.lit (.bool false)], args := [d], vars := [g1, g2] }
  | _ => none }
def FnPolySqr128WrongFalsely : Prop := fnPolySqr128Row.holds Tryd.pinned (OpenSpec.ofChange fnPolySqr128Wrong)

/-- 'laws.FnNTT128Is': WHATEVER THE INPUT: true; the input reads as it did. -/
def fnNTT128IsSpec : ChangeSpec := { name := "fnNTT128Is", vars := ["loop.example/pub-g03033/pub/circl/vdaf/fp128.rSquare", "loop.example/pub-g03033/pub/circl/vdaf/fp128.rootOfUnityTwoN", "loop.example/pub-g03033/pub/circl/vdaf/fp128.ErrRootsOfUnity"], fn := fun _ => fun
  | [d, g1, g2, g3] => { results := [.lit (.bool true)], args := [d], vars := [g1, g2, g3] }
  | _ => none }
def fnNTT128IsRow : OpenClaim := { program := "ytgdfdkpkhjbibaadoor", sum := "205ee2d08b1110841f9e3f5dffeabd8114af3ca70b304d3d40f484e71baa08c9", func := "loop.example/pub-g03033/laws.FnNTT128Is", spec := "fnNTT128Is", inPlace := ["math/bits.Add64", "math/bits.Sub64"], named := ["encoding/binary.LittleEndian", "loop.example/pub-g03033/pub/circl/vdaf/fp128.rSquare", "math/bits.deBruijn32tab", "math/bits.deBruijn64tab", "loop.example/pub-g03033/pub/circl/vdaf/fp128.rootOfUnityTwoN", "loop.example/pub-g03033/pub/circl/vdaf/fp128.ErrRootsOfUnity"], ifaces := true, apart := false, laid := [("math/bits.deBruijn32tab", laid_math_bits_deBruijn32tab), ("math/bits.deBruijn64tab", laid_math_bits_deBruijn64tab), ("loop.example/pub-g03033/pub/circl/vdaf/fp128.rSquare", laid_loop_example_pub_g03033_pub_circl_vdaf_fp128_rSquare), ("loop.example/pub-g03033/pub/circl/vdaf/fp128.rootOfUnityTwoN", laid_loop_example_pub_g03033_pub_circl_vdaf_fp128_rootOfUnityTwoN), ("loop.example/pub-g03033/pub/circl/vdaf/fp128.ErrRootsOfUnity", laid_loop_example_pub_g03033_pub_circl_vdaf_fp128_ErrRootsOfUnity)] }
def FnNTT128IsSaid : Prop := fnNTT128IsRow.holds Tryd.pinned (OpenSpec.ofChange fnNTT128IsSpec)

/-- ITS FALSE NEIGHBOUR: 'it returns false'. Refute it at one input. -/
def fnNTT128IsWrong : ChangeSpec := { name := "fnNTT128Is", vars := ["loop.example/pub-g03033/pub/circl/vdaf/fp128.rSquare", "loop.example/pub-g03033/pub/circl/vdaf/fp128.rootOfUnityTwoN", "loop.example/pub-g03033/pub/circl/vdaf/fp128.ErrRootsOfUnity"], fn := fun _ => fun
  | [d, g1, g2, g3] => { results := [.lit (.bool false)], args := [d], vars := [g1, g2, g3] }
  | _ => none }
def FnNTT128IsWrongFalsely : Prop := fnNTT128IsRow.holds Tryd.pinned (OpenSpec.ofChange fnNTT128IsWrong)

/-- 'laws.FnPolyMul128': WHATEVER THE INPUT: true; the input reads as it did. -/
def fnPolyMul128Spec : ChangeSpec := { name := "fnPolyMul128", vars := ["loop.example/pub-g03033/pub/circl/vdaf/fp128.rSquare", "loop.example/pub-g03033/pub/circl/vdaf/fp128.ErrMatchLen", "loop.example/pub-g03033/pub/circl/vdaf/fp128.rootOfUnityTwoN", "loop.example/pub-g03033/pub/circl/vdaf/fp128.ErrRootsOfUnity", "loop.example/pub-g03033/pub/circl/vdaf/fp128.half"], fn := fun _ => fun
  | [d1, d2, d3, g1, g2, g3, g4, g5] => { results := [.lit (.bool true)], args := [d1, d2, d3], vars := [g1, g2, g3, g4, g5] }
  | _ => none }
def fnPolyMul128Row : OpenClaim := { program := "ytgdfdkpkhjbibaadoor", sum := "205ee2d08b1110841f9e3f5dffeabd8114af3ca70b304d3d40f484e71baa08c9", func := "loop.example/pub-g03033/laws.FnPolyMul128", spec := "fnPolyMul128", inPlace := ["math/bits.Add64", "math/bits.Sub64"], named := ["encoding/binary.LittleEndian", "loop.example/pub-g03033/pub/circl/vdaf/fp128.rSquare", "loop.example/pub-g03033/pub/circl/vdaf/fp128.ErrMatchLen", "math/bits.deBruijn32tab", "math/bits.deBruijn64tab", "loop.example/pub-g03033/pub/circl/vdaf/fp128.rootOfUnityTwoN", "loop.example/pub-g03033/pub/circl/vdaf/fp128.ErrRootsOfUnity", "loop.example/pub-g03033/pub/circl/vdaf/fp128.half"], ifaces := true, apart := false, laid := [("math/bits.deBruijn32tab", laid_math_bits_deBruijn32tab), ("math/bits.deBruijn64tab", laid_math_bits_deBruijn64tab), ("loop.example/pub-g03033/pub/circl/vdaf/fp128.rSquare", laid_loop_example_pub_g03033_pub_circl_vdaf_fp128_rSquare), ("loop.example/pub-g03033/pub/circl/vdaf/fp128.half", laid_loop_example_pub_g03033_pub_circl_vdaf_fp128_half), ("loop.example/pub-g03033/pub/circl/vdaf/fp128.rootOfUnityTwoN", laid_loop_example_pub_g03033_pub_circl_vdaf_fp128_rootOfUnityTwoN), ("loop.example/pub-g03033/pub/circl/vdaf/fp128.ErrMatchLen", laid_loop_example_pub_g03033_pub_circl_vdaf_fp128_ErrMatchLen), ("loop.example/pub-g03033/pub/circl/vdaf/fp128.ErrRootsOfUnity", laid_loop_example_pub_g03033_pub_circl_vdaf_fp128_ErrRootsOfUnity)] }
def FnPolyMul128Said : Prop := fnPolyMul128Row.holds Tryd.pinned (OpenSpec.ofChange fnPolyMul128Spec)

/-- ITS FALSE NEIGHBOUR: 'it returns false'. Refute it at one input. -/
def fnPolyMul128Wrong : ChangeSpec := { name := "fnPolyMul128", vars := ["loop.example/pub-g03033/pub/circl/vdaf/fp128.rSquare", "loop.example/pub-g03033/pub/circl/vdaf/fp128.ErrMatchLen", "loop.example/pub-g03033/pub/circl/vdaf/fp128.rootOfUnityTwoN", "loop.example/pub-g03033/pub/circl/vdaf/fp128.ErrRootsOfUnity", "loop.example/pub-g03033/pub/circl/vdaf/fp128.half"], fn := fun _ => fun
  | [d1, d2, d3, g1, g2, g3, g4, g5] => { results := [.lit (.bool false)], args := [d1, d2, d3], vars := [g1, g2, g3, g4, g5] }
  | _ => none }
def FnPolyMul128WrongFalsely : Prop := fnPolyMul128Row.holds Tryd.pinned (OpenSpec.ofChange fnPolyMul128Wrong)

/- THE SECOND FORM. 'bulk': how many values and letters a reading holds, each counted each time it is reached (what is shared counts as often as it is met; a slice's spare places count too). A statement '..UptoSaid' is the law's where the arguments, and the package variables that the reading takes, are together of bulk at most 1048576: NARROWER than '..Said'. Prove '..Said' where nothing that the law and all that it calls make is longer than what came in: it says more and counts as full. Else prove '..UptoSaid'. A law counts once. -/
mutual
def uptoBulk {H : Type} : DataW H → Nat
  | .lit (.string bytes) => bytes.length + 1
  | .lit _ => 1
  | .nil => 1
  | .ptr d => uptoBulk d + 1
  | .slice elems spare => uptoBulkAll elems + uptoBulkAll spare + 1
  | .agg parts => uptoBulkAll parts + 1
  | .iface _ d => uptoBulk d + 1
  | .map entries => uptoBulkEntries entries + 1
  | .held _ => 1
def uptoBulkAll {H : Type} : List (DataW H) → Nat
  | [] => 0
  | d :: r => uptoBulk d + uptoBulkAll r
def uptoBulkEntries {H : Type} : List (Lit × DataW H) → Nat
  | [] => 0
  | x :: r => uptoBulkEntry x + uptoBulkEntries r
def uptoBulkEntry {H : Type} : Lit × DataW H → Nat
  | (.string bytes, d) => bytes.length + uptoBulk d + 1
  | (_, d) => uptoBulk d + 1
 end
def uptoSmall : (H : Type) → List (DataW H) → Bool := fun _ ds => decide (uptoBulkAll ds ≤ 1048576)
def OpenSpec.upto (s : _root_.Go.ChangeSpec) : _root_.Go.OpenSpec := { _root_.Go.OpenSpec.ofChange s with cond := some uptoSmall }

/-- 'laws.FnRoot128', WHERE WHAT IT READS IS OF BULK AT MOST 1048576: true; the input reads as it did. -/
def fnRoot128UptoRow : OpenClaim := { program := "ytgdfdkpkhjbibaadoor", sum := "205ee2d08b1110841f9e3f5dffeabd8114af3ca70b304d3d40f484e71baa08c9", func := "loop.example/pub-g03033/laws.FnRoot128", spec := "fnRoot128", inPlace := ["math/bits.Add64", "math/bits.Sub64"], named := ["loop.example/pub-g03033/pub/circl/vdaf/fp128.ErrRootsOfUnity", "loop.example/pub-g03033/pub/circl/vdaf/fp128.rootOfUnityTwoN", "encoding/binary.LittleEndian"], ifaces := true, apart := false, laid := [("loop.example/pub-g03033/pub/circl/vdaf/fp128.rootOfUnityTwoN", laid_loop_example_pub_g03033_pub_circl_vdaf_fp128_rootOfUnityTwoN), ("loop.example/pub-g03033/pub/circl/vdaf/fp128.ErrRootsOfUnity", laid_loop_example_pub_g03033_pub_circl_vdaf_fp128_ErrRootsOfUnity)], narrowed := true }
def FnRoot128UptoSaid : Prop := fnRoot128UptoRow.holds Tryd.pinned (OpenSpec.upto fnRoot128Spec)

/-- 'laws.FnTells128', WHERE WHAT IT READS IS OF BULK AT MOST 1048576: true; the input reads as it did. -/
def fnTells128UptoRow : OpenClaim := { program := "ytgdfdkpkhjbibaadoor", sum := "205ee2d08b1110841f9e3f5dffeabd8114af3ca70b304d3d40f484e71baa08c9", func := "loop.example/pub-g03033/laws.FnTells128", spec := "fnTells128", inPlace := ["math/bits.Add64", "math/bits.Sub64", "crypto/internal/constanttime.boolToUint8"], named := ["encoding/binary.LittleEndian", "loop.example/pub-g03033/pub/circl/vdaf/fp128.rSquare", "loop.example/pub-g03033/pub/circl/vdaf/fp128.rootOfUnityTwoN"], apart := false, laid := [("loop.example/pub-g03033/pub/circl/vdaf/fp128.rSquare", laid_loop_example_pub_g03033_pub_circl_vdaf_fp128_rSquare), ("loop.example/pub-g03033/pub/circl/vdaf/fp128.rootOfUnityTwoN", laid_loop_example_pub_g03033_pub_circl_vdaf_fp128_rootOfUnityTwoN)], narrowed := true }
def FnTells128UptoSaid : Prop := fnTells128UptoRow.holds Tryd.pinned (OpenSpec.upto fnTells128Spec)

/-- 'laws.FnOf128', WHERE WHAT IT READS IS OF BULK AT MOST 1048576: true; the input reads as it did. -/
def fnOf128UptoRow : OpenClaim := { program := "ytgdfdkpkhjbibaadoor", sum := "205ee2d08b1110841f9e3f5dffeabd8114af3ca70b304d3d40f484e71baa08c9", func := "loop.example/pub-g03033/laws.FnOf128", spec := "fnOf128", inPlace := ["math/bits.Add64", "math/bits.Sub64"], named := ["loop.example/pub-g03033/pub/circl/vdaf/fp128.rSquare", "encoding/binary.LittleEndian", "loop.example/pub-g03033/pub/circl/vdaf/fp128.ErrNumberTooLarge"], ifaces := true, apart := false, laid := [("loop.example/pub-g03033/pub/circl/vdaf/fp128.rSquare", laid_loop_example_pub_g03033_pub_circl_vdaf_fp128_rSquare), ("loop.example/pub-g03033/pub/circl/vdaf/fp128.ErrNumberTooLarge", laid_loop_example_pub_g03033_pub_circl_vdaf_fp128_ErrNumberTooLarge)], narrowed := true }
def FnOf128UptoSaid : Prop := fnOf128UptoRow.holds Tryd.pinned (OpenSpec.upto fnOf128Spec)

/-- 'laws.FnRing128', WHERE WHAT IT READS IS OF BULK AT MOST 1048576: true; the input reads as it did. -/
def fnRing128UptoRow : OpenClaim := { program := "ytgdfdkpkhjbibaadoor", sum := "205ee2d08b1110841f9e3f5dffeabd8114af3ca70b304d3d40f484e71baa08c9", func := "loop.example/pub-g03033/laws.FnRing128", spec := "fnRing128", inPlace := ["math/bits.Add64", "math/bits.Sub64"], named := ["encoding/binary.LittleEndian", "loop.example/pub-g03033/pub/circl/vdaf/fp128.rSquare"], apart := false, laid := [("loop.example/pub-g03033/pub/circl/vdaf/fp128.rSquare", laid_loop_example_pub_g03033_pub_circl_vdaf_fp128_rSquare)], narrowed := true }
def FnRing128UptoSaid : Prop := fnRing128UptoRow.holds Tryd.pinned (OpenSpec.upto fnRing128Spec)

/-- 'laws.FnStrip128', WHERE WHAT IT READS IS OF BULK AT MOST 1048576: true; the input reads as it did. -/
def fnStrip128UptoRow : OpenClaim := { program := "ytgdfdkpkhjbibaadoor", sum := "205ee2d08b1110841f9e3f5dffeabd8114af3ca70b304d3d40f484e71baa08c9", func := "loop.example/pub-g03033/laws.FnStrip128", spec := "fnStrip128", inPlace := ["math/bits.Add64", "math/bits.Sub64", "crypto/internal/constanttime.boolToUint8"], named := ["encoding/binary.LittleEndian", "loop.example/pub-g03033/pub/circl/vdaf/fp128.rSquare"], apart := false, laid := [("loop.example/pub-g03033/pub/circl/vdaf/fp128.rSquare", laid_loop_example_pub_g03033_pub_circl_vdaf_fp128_rSquare)], narrowed := true }
def FnStrip128UptoSaid : Prop := fnStrip128UptoRow.holds Tryd.pinned (OpenSpec.upto fnStrip128Spec)

/-- 'laws.FnEvaluate128', WHERE WHAT IT READS IS OF BULK AT MOST 1048576: true; the input reads as it did. -/
def fnEvaluate128UptoRow : OpenClaim := { program := "ytgdfdkpkhjbibaadoor", sum := "205ee2d08b1110841f9e3f5dffeabd8114af3ca70b304d3d40f484e71baa08c9", func := "loop.example/pub-g03033/laws.FnEvaluate128", spec := "fnEvaluate128", inPlace := ["math/bits.Add64", "math/bits.Sub64"], named := ["encoding/binary.LittleEndian", "loop.example/pub-g03033/pub/circl/vdaf/fp128.rSquare"], apart := false, laid := [("loop.example/pub-g03033/pub/circl/vdaf/fp128.rSquare", laid_loop_example_pub_g03033_pub_circl_vdaf_fp128_rSquare)], narrowed := true }
def FnEvaluate128UptoSaid : Prop := fnEvaluate128UptoRow.holds Tryd.pinned (OpenSpec.upto fnEvaluate128Spec)

/-- 'laws.FnAdd128Is', WHERE WHAT IT READS IS OF BULK AT MOST 1048576: true; the input reads as it did. -/
def fnAdd128IsUptoRow : OpenClaim := { program := "ytgdfdkpkhjbibaadoor", sum := "205ee2d08b1110841f9e3f5dffeabd8114af3ca70b304d3d40f484e71baa08c9", func := "loop.example/pub-g03033/laws.FnAdd128Is", spec := "fnAdd128Is", inPlace := ["math/bits.Add64", "math/bits.Sub64"], named := ["encoding/binary.LittleEndian", "loop.example/pub-g03033/pub/circl/vdaf/fp128.rSquare"], apart := false, laid := [("loop.example/pub-g03033/pub/circl/vdaf/fp128.rSquare", laid_loop_example_pub_g03033_pub_circl_vdaf_fp128_rSquare)], narrowed := true }
def FnAdd128IsUptoSaid : Prop := fnAdd128IsUptoRow.holds Tryd.pinned (OpenSpec.upto fnAdd128IsSpec)

/-- 'laws.FnJoin128Is', WHERE WHAT IT READS IS OF BULK AT MOST 1048576: true; the input reads as it did. -/
def fnJoin128IsUptoRow : OpenClaim := { program := "ytgdfdkpkhjbibaadoor", sum := "205ee2d08b1110841f9e3f5dffeabd8114af3ca70b304d3d40f484e71baa08c9", func := "loop.example/pub-g03033/laws.FnJoin128Is", spec := "fnJoin128Is", inPlace := ["math/bits.Add64", "math/bits.Sub64"], named := ["encoding/binary.LittleEndian", "loop.example/pub-g03033/pub/circl/vdaf/fp128.rSquare"], apart := false, laid := [("loop.example/pub-g03033/pub/circl/vdaf/fp128.rSquare", laid_loop_example_pub_g03033_pub_circl_vdaf_fp128_rSquare)], narrowed := true }
def FnJoin128IsUptoSaid : Prop := fnJoin128IsUptoRow.holds Tryd.pinned (OpenSpec.upto fnJoin128IsSpec)

/-- 'laws.FnMul128Is', WHERE WHAT IT READS IS OF BULK AT MOST 1048576: true; the input reads as it did. -/
def fnMul128IsUptoRow : OpenClaim := { program := "ytgdfdkpkhjbibaadoor", sum := "205ee2d08b1110841f9e3f5dffeabd8114af3ca70b304d3d40f484e71baa08c9", func := "loop.example/pub-g03033/laws.FnMul128Is", spec := "fnMul128Is", inPlace := ["math/bits.Add64", "math/bits.Sub64"], named := ["encoding/binary.LittleEndian", "loop.example/pub-g03033/pub/circl/vdaf/fp128.rSquare"], apart := false, laid := [("loop.example/pub-g03033/pub/circl/vdaf/fp128.rSquare", laid_loop_example_pub_g03033_pub_circl_vdaf_fp128_rSquare)], narrowed := true }
def FnMul128IsUptoSaid : Prop := fnMul128IsUptoRow.holds Tryd.pinned (OpenSpec.upto fnMul128IsSpec)

/-- 'laws.FnOrder128', WHERE WHAT IT READS IS OF BULK AT MOST 1048576: true; the input reads as it did. -/
def fnOrder128UptoRow : OpenClaim := { program := "ytgdfdkpkhjbibaadoor", sum := "205ee2d08b1110841f9e3f5dffeabd8114af3ca70b304d3d40f484e71baa08c9", func := "loop.example/pub-g03033/laws.FnOrder128", spec := "fnOrder128", inPlace := ["math/bits.Add64", "math/bits.Sub64"], named := ["encoding/binary.BigEndian", "encoding/binary.LittleEndian", "loop.example/pub-g03033/pub/circl/vdaf/fp128.rSquare"], apart := false, laid := [("loop.example/pub-g03033/pub/circl/vdaf/fp128.rSquare", laid_loop_example_pub_g03033_pub_circl_vdaf_fp128_rSquare)], narrowed := true }
def FnOrder128UptoSaid : Prop := fnOrder128UptoRow.holds Tryd.pinned (OpenSpec.upto fnOrder128Spec)

/-- 'laws.FnRootRoad128', WHERE WHAT IT READS IS OF BULK AT MOST 1048576: true; the input reads as it did. -/
def fnRootRoad128UptoRow : OpenClaim := { program := "ytgdfdkpkhjbibaadoor", sum := "205ee2d08b1110841f9e3f5dffeabd8114af3ca70b304d3d40f484e71baa08c9", func := "loop.example/pub-g03033/laws.FnRootRoad128", spec := "fnRootRoad128", inPlace := ["math/bits.Add64", "math/bits.Sub64"], named := ["loop.example/pub-g03033/pub/circl/vdaf/fp128.ErrRootsOfUnity", "loop.example/pub-g03033/pub/circl/vdaf/fp128.rootOfUnityTwoN", "encoding/binary.LittleEndian", "loop.example/pub-g03033/pub/circl/vdaf/fp128.rSquare"], ifaces := true, apart := false, laid := [("loop.example/pub-g03033/pub/circl/vdaf/fp128.rSquare", laid_loop_example_pub_g03033_pub_circl_vdaf_fp128_rSquare), ("loop.example/pub-g03033/pub/circl/vdaf/fp128.rootOfUnityTwoN", laid_loop_example_pub_g03033_pub_circl_vdaf_fp128_rootOfUnityTwoN), ("loop.example/pub-g03033/pub/circl/vdaf/fp128.ErrRootsOfUnity", laid_loop_example_pub_g03033_pub_circl_vdaf_fp128_ErrRootsOfUnity)], narrowed := true }
def FnRootRoad128UptoSaid : Prop := fnRootRoad128UptoRow.holds Tryd.pinned (OpenSpec.upto fnRootRoad128Spec)

/-- 'laws.FnBits128', WHERE WHAT IT READS IS OF BULK AT MOST 1048576: true; the input reads as it did. -/
def fnBits128UptoRow : OpenClaim := { program := "ytgdfdkpkhjbibaadoor", sum := "205ee2d08b1110841f9e3f5dffeabd8114af3ca70b304d3d40f484e71baa08c9", func := "loop.example/pub-g03033/laws.FnBits128", spec := "fnBits128", inPlace := ["math/bits.Add64", "math/bits.Sub64"], named := ["loop.example/pub-g03033/pub/circl/vdaf/fp128.ErrNumberTooLarge", "loop.example/pub-g03033/pub/circl/vdaf/fp128.rootOfUnityTwoN", "encoding/binary.LittleEndian", "loop.example/pub-g03033/pub/circl/vdaf/fp128.rSquare"], ifaces := true, apart := false, laid := [("loop.example/pub-g03033/pub/circl/vdaf/fp128.rSquare", laid_loop_example_pub_g03033_pub_circl_vdaf_fp128_rSquare), ("loop.example/pub-g03033/pub/circl/vdaf/fp128.rootOfUnityTwoN", laid_loop_example_pub_g03033_pub_circl_vdaf_fp128_rootOfUnityTwoN), ("loop.example/pub-g03033/pub/circl/vdaf/fp128.ErrNumberTooLarge", laid_loop_example_pub_g03033_pub_circl_vdaf_fp128_ErrNumberTooLarge)], narrowed := true }
def FnBits128UptoSaid : Prop := fnBits128UptoRow.holds Tryd.pinned (OpenSpec.upto fnBits128Spec)

/-- 'laws.FnInvOf128', WHERE WHAT IT READS IS OF BULK AT MOST 1048576: true; the input reads as it did. -/
def fnInvOf128UptoRow : OpenClaim := { program := "ytgdfdkpkhjbibaadoor", sum := "205ee2d08b1110841f9e3f5dffeabd8114af3ca70b304d3d40f484e71baa08c9", func := "loop.example/pub-g03033/laws.FnInvOf128", spec := "fnInvOf128", inPlace := ["math/bits.Add64", "math/bits.Sub64"], named := ["loop.example/pub-g03033/pub/circl/vdaf/fp128.inverseInt", "loop.example/pub-g03033/pub/circl/vdaf/fp128.ErrFieldEltDecode", "loop.example/pub-g03033/pub/circl/vdaf/fp128.rSquare", "encoding/binary.LittleEndian", "loop.example/pub-g03033/pub/circl/vdaf/fp128.half", "loop.example/pub-g03033/pub/circl/vdaf/fp128.rootOfUnityTwoN"], ifaces := true, apart := false, laid := [("loop.example/pub-g03033/pub/circl/vdaf/fp128.rSquare", laid_loop_example_pub_g03033_pub_circl_vdaf_fp128_rSquare), ("loop.example/pub-g03033/pub/circl/vdaf/fp128.half", laid_loop_example_pub_g03033_pub_circl_vdaf_fp128_half), ("loop.example/pub-g03033/pub/circl/vdaf/fp128.rootOfUnityTwoN", laid_loop_example_pub_g03033_pub_circl_vdaf_fp128_rootOfUnityTwoN), ("loop.example/pub-g03033/pub/circl/vdaf/fp128.inverseInt", laid_loop_example_pub_g03033_pub_circl_vdaf_fp128_inverseInt), ("loop.example/pub-g03033/pub/circl/vdaf/fp128.ErrFieldEltDecode", laid_loop_example_pub_g03033_pub_circl_vdaf_fp128_ErrFieldEltDecode)], narrowed := true }
def FnInvOf128UptoSaid : Prop := fnInvOf128UptoRow.holds Tryd.pinned (OpenSpec.upto fnInvOf128Spec)

/-- 'laws.FnInv128', WHERE WHAT IT READS IS OF BULK AT MOST 1048576: true; the input reads as it did. -/
def fnInv128UptoRow : OpenClaim := { program := "ytgdfdkpkhjbibaadoor", sum := "205ee2d08b1110841f9e3f5dffeabd8114af3ca70b304d3d40f484e71baa08c9", func := "loop.example/pub-g03033/laws.FnInv128", spec := "fnInv128", inPlace := ["math/bits.Add64", "math/bits.Sub64"], named := ["encoding/binary.LittleEndian", "loop.example/pub-g03033/pub/circl/vdaf/fp128.rSquare", "loop.example/pub-g03033/pub/circl/vdaf/fp128.rootOfUnityTwoN"], apart := false, laid := [("loop.example/pub-g03033/pub/circl/vdaf/fp128.rSquare", laid_loop_example_pub_g03033_pub_circl_vdaf_fp128_rSquare), ("loop.example/pub-g03033/pub/circl/vdaf/fp128.rootOfUnityTwoN", laid_loop_example_pub_g03033_pub_circl_vdaf_fp128_rootOfUnityTwoN)], narrowed := true }
def FnInv128UptoSaid : Prop := fnInv128UptoRow.holds Tryd.pinned (OpenSpec.upto fnInv128Spec)

/-- 'laws.FnVec128Is', WHERE WHAT IT READS IS OF BULK AT MOST 1048576: true; the input reads as it did. -/
def fnVec128IsUptoRow : OpenClaim := { program := "ytgdfdkpkhjbibaadoor", sum := "205ee2d08b1110841f9e3f5dffeabd8114af3ca70b304d3d40f484e71baa08c9", func := "loop.example/pub-g03033/laws.FnVec128Is", spec := "fnVec128Is", inPlace := ["math/bits.Add64", "math/bits.Sub64"], named := ["encoding/binary.LittleEndian", "loop.example/pub-g03033/pub/circl/vdaf/fp128.rSquare", "loop.example/pub-g03033/pub/circl/vdaf/fp128.ErrMatchLen"], ifaces := true, apart := false, laid := [("loop.example/pub-g03033/pub/circl/vdaf/fp128.rSquare", laid_loop_example_pub_g03033_pub_circl_vdaf_fp128_rSquare), ("loop.example/pub-g03033/pub/circl/vdaf/fp128.ErrMatchLen", laid_loop_example_pub_g03033_pub_circl_vdaf_fp128_ErrMatchLen)], narrowed := true }
def FnVec128IsUptoSaid : Prop := fnVec128IsUptoRow.holds Tryd.pinned (OpenSpec.upto fnVec128IsSpec)

/-- 'laws.FnPolySqr128', WHERE WHAT IT READS IS OF BULK AT MOST 1048576: true; the input reads as it did. -/
def fnPolySqr128UptoRow : OpenClaim := { program := "ytgdfdkpkhjbibaadoor", sum := "205ee2d08b1110841f9e3f5dffeabd8114af3ca70b304d3d40f484e71baa08c9", func := "loop.example/pub-g03033/laws.FnPolySqr128", spec := "fnPolySqr128", inPlace := ["math/bits.Add64", "math/bits.Sub64"], named := ["encoding/binary.LittleEndian", "loop.example/pub-g03033/pub/circl/vdaf/fp128.rSquare", "loop.example/pub-g03033/pub/circl/vdaf/fp128.ErrMatchLen"], ifaces := true, apart := false, laid := [("loop.example/pub-g03033/pub/circl/vdaf/fp128.rSquare", laid_loop_example_pub_g03033_pub_circl_vdaf_fp128_rSquare), ("loop.example/pub-g03033/pub/circl/vdaf/fp128.ErrMatchLen", laid_loop_example_pub_g03033_pub_circl_vdaf_fp128_ErrMatchLen)], narrowed := true }
def FnPolySqr128UptoSaid : Prop := fnPolySqr128UptoRow.holds Tryd.pinned (OpenSpec.upto fnPolySqr128Spec)

/-- 'laws.FnNTT128Is', WHERE WHAT IT READS IS OF BULK AT MOST 1048576: true; the input reads as it did. -/
def fnNTT128IsUptoRow : OpenClaim := { program := "ytgdfdkpkhjbibaadoor", sum := "205ee2d08b1110841f9e3f5dffeabd8114af3ca70b304d3d40f484e71baa08c9", func := "loop.example/pub-g03033/laws.FnNTT128Is", spec := "fnNTT128Is", inPlace := ["math/bits.Add64", "math/bits.Sub64"], named := ["encoding/binary.LittleEndian", "loop.example/pub-g03033/pub/circl/vdaf/fp128.rSquare", "math/bits.deBruijn32tab", "math/bits.deBruijn64tab", "loop.example/pub-g03033/pub/circl/vdaf/fp128.rootOfUnityTwoN", "loop.example/pub-g03033/pub/circl/vdaf/fp128.ErrRootsOfUnity"], ifaces := true, apart := false, laid := [("math/bits.deBruijn32tab", laid_math_bits_deBruijn32tab), ("math/bits.deBruijn64tab", laid_math_bits_deBruijn64tab), ("loop.example/pub-g03033/pub/circl/vdaf/fp128.rSquare", laid_loop_example_pub_g03033_pub_circl_vdaf_fp128_rSquare), ("loop.example/pub-g03033/pub/circl/vdaf/fp128.rootOfUnityTwoN", laid_loop_example_pub_g03033_pub_circl_vdaf_fp128_rootOfUnityTwoN), ("loop.example/pub-g03033/pub/circl/vdaf/fp128.ErrRootsOfUnity", laid_loop_example_pub_g03033_pub_circl_vdaf_fp128_ErrRootsOfUnity)], narrowed := true }
def FnNTT128IsUptoSaid : Prop := fnNTT128IsUptoRow.holds Tryd.pinned (OpenSpec.upto fnNTT128IsSpec)

/-- 'laws.FnPolyMul128', WHERE WHAT IT READS IS OF BULK AT MOST 1048576: true; the input reads as it did. -/
def fnPolyMul128UptoRow : OpenClaim := { program := "ytgdfdkpkhjbibaadoor", sum := "205ee2d08b1110841f9e3f5dffeabd8114af3ca70b304d3d40f484e71baa08c9", func := "loop.example/pub-g03033/laws.FnPolyMul128", spec := "fnPolyMul128", inPlace := ["math/bits.Add64", "math/bits.Sub64"], named := ["encoding/binary.LittleEndian", "loop.example/pub-g03033/pub/circl/vdaf/fp128.rSquare", "loop.example/pub-g03033/pub/circl/vdaf/fp128.ErrMatchLen", "math/bits.deBruijn32tab", "math/bits.deBruijn64tab", "loop.example/pub-g03033/pub/circl/vdaf/fp128.rootOfUnityTwoN", "loop.example/pub-g03033/pub/circl/vdaf/fp128.ErrRootsOfUnity", "loop.example/pub-g03033/pub/circl/vdaf/fp128.half"], ifaces := true, apart := false, laid := [("math/bits.deBruijn32tab", laid_math_bits_deBruijn32tab), ("math/bits.deBruijn64tab", laid_math_bits_deBruijn64tab), ("loop.example/pub-g03033/pub/circl/vdaf/fp128.rSquare", laid_loop_example_pub_g03033_pub_circl_vdaf_fp128_rSquare), ("loop.example/pub-g03033/pub/circl/vdaf/fp128.half", laid_loop_example_pub_g03033_pub_circl_vdaf_fp128_half), ("loop.example/pub-g03033/pub/circl/vdaf/fp128.rootOfUnityTwoN", laid_loop_example_pub_g03033_pub_circl_vdaf_fp128_rootOfUnityTwoN), ("loop.example/pub-g03033/pub/circl/vdaf/fp128.ErrMatchLen", laid_loop_example_pub_g03033_pub_circl_vdaf_fp128_ErrMatchLen), ("loop.example/pub-g03033/pub/circl/vdaf/fp128.ErrRootsOfUnity", laid_loop_example_pub_g03033_pub_circl_vdaf_fp128_ErrRootsOfUnity)], narrowed := true }
def FnPolyMul128UptoSaid : Prop := fnPolyMul128UptoRow.holds Tryd.pinned (OpenSpec.upto fnPolyMul128Spec)

end Rows
end Go.Proofs.YtgdfdkpkhjbibaaDoor
