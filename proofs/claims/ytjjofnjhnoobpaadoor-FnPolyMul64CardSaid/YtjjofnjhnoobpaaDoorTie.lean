/-
  DERIVED. GIVEN WITH THE SEED: THE PROGRAM's TIES (one call each: nine closed facts by the kernel) AND EACH ROW's TIE, after the 31st guide's Derived/Test/Toyas{Tie, Card}.lean. No idea stands in it: it is a product of the set-up. Laid BY PROGRAM, IN A SANDBOX (cutbox-door.mjs). By AI agents, Wed Nov 11 2026. No macro, syntax, notation, axiom, sorry.
-/
import Derived.Test.YtjjofnjhnoobpaaDoorRows
import Derived.LaidByTextLater
import Derived.SevenTiedAt
import Derived.LaidSub
import Derived.LaidOnce
namespace Go.Proofs.YtjjofnjhnoobpaaDoor
open Go
set_option maxRecDepth 100000
theorem seatTie1 : Tryd.prog.laidByTextLater [("math/bits.deBruijn32tab", Rows.laid_math_bits_deBruijn32tab), ("math/bits.deBruijn64tab", Rows.laid_math_bits_deBruijn64tab), ("loop.example/pub-g03033/pub/circl/vdaf/fp64.rSquare", Rows.laid_loop_example_pub_g03033_pub_circl_vdaf_fp64_rSquare), ("loop.example/pub-g03033/pub/circl/vdaf/fp64.half", Rows.laid_loop_example_pub_g03033_pub_circl_vdaf_fp64_half), ("loop.example/pub-g03033/pub/circl/vdaf/fp64.rootOfUnityTwoN", Rows.laid_loop_example_pub_g03033_pub_circl_vdaf_fp64_rootOfUnityTwoN), ("loop.example/pub-g03033/pub/circl/vdaf/fp64.inverseInt", Rows.laid_loop_example_pub_g03033_pub_circl_vdaf_fp64_inverseInt), ("loop.example/pub-g03033/pub/circl/vdaf/fp64.ErrMatchLen", Rows.laid_loop_example_pub_g03033_pub_circl_vdaf_fp64_ErrMatchLen), ("loop.example/pub-g03033/pub/circl/vdaf/fp64.ErrFieldEltDecode", Rows.laid_loop_example_pub_g03033_pub_circl_vdaf_fp64_ErrFieldEltDecode), ("loop.example/pub-g03033/pub/circl/vdaf/fp64.ErrNumberTooLarge", Rows.laid_loop_example_pub_g03033_pub_circl_vdaf_fp64_ErrNumberTooLarge), ("loop.example/pub-g03033/pub/circl/vdaf/fp64.ErrRootsOfUnity", Rows.laid_loop_example_pub_g03033_pub_circl_vdaf_fp64_ErrRootsOfUnity)] [.data, .data, .data, .data, .data, .data, .sentinel, .sentinel, .sentinel, .sentinel] true :=
  Program.laidByTextLater_by_one 156 8 65 (by kernel_rfl) (by kernel_rfl) (by kernel_rfl) (by kernel_rfl) (by kernel_rfl) (by kernel_rfl) (fun _ _ => by kernel_rfl)
theorem noOwnUnsafe : Tryd.pinned.checked.prog.headLifts.contains "ownunsafe" = false := by kernel_rfl
theorem tie : Tryd.prog.laidByTextLater [("loop.example/pub-g03033/pub/circl/vdaf/fp64.rootOfUnityTwoN", Rows.laid_loop_example_pub_g03033_pub_circl_vdaf_fp64_rootOfUnityTwoN), ("loop.example/pub-g03033/pub/circl/vdaf/fp64.ErrRootsOfUnity", Rows.laid_loop_example_pub_g03033_pub_circl_vdaf_fp64_ErrRootsOfUnity)] [.data, .sentinel] true :=
  Program.laidByTextLater.sub seatTie1 ["loop.example/pub-g03033/pub/circl/vdaf/fp64.rootOfUnityTwoN", "loop.example/pub-g03033/pub/circl/vdaf/fp64.ErrRootsOfUnity"] (by kernel_rfl) (by kernel_rfl)
theorem fnRoot64_row_tie : Rows.fnRoot64Row.laidByTextAt .later Tryd.pinned [.data, .sentinel] true :=
  OpenClaim.laidByTextAt_later rfl rfl tie noOwnUnsafe
theorem tie2 : Tryd.prog.laidByTextLater [("loop.example/pub-g03033/pub/circl/vdaf/fp64.rSquare", Rows.laid_loop_example_pub_g03033_pub_circl_vdaf_fp64_rSquare), ("loop.example/pub-g03033/pub/circl/vdaf/fp64.rootOfUnityTwoN", Rows.laid_loop_example_pub_g03033_pub_circl_vdaf_fp64_rootOfUnityTwoN)] [.data, .data] true :=
  Program.laidByTextLater.sub seatTie1 ["loop.example/pub-g03033/pub/circl/vdaf/fp64.rSquare", "loop.example/pub-g03033/pub/circl/vdaf/fp64.rootOfUnityTwoN"] (by kernel_rfl) (by kernel_rfl)
theorem fnTells64_row_tie : Rows.fnTells64Row.laidByTextAt .later Tryd.pinned [.data, .data] true :=
  OpenClaim.laidByTextAt_later rfl rfl tie2 noOwnUnsafe
theorem fnInv64_row_tie : Rows.fnInv64Row.laidByTextAt .later Tryd.pinned [.data, .data] true :=
  OpenClaim.laidByTextAt_later rfl rfl tie2 noOwnUnsafe
theorem tie3 : Tryd.prog.laidByTextLater [("loop.example/pub-g03033/pub/circl/vdaf/fp64.rSquare", Rows.laid_loop_example_pub_g03033_pub_circl_vdaf_fp64_rSquare), ("loop.example/pub-g03033/pub/circl/vdaf/fp64.ErrFieldEltDecode", Rows.laid_loop_example_pub_g03033_pub_circl_vdaf_fp64_ErrFieldEltDecode)] [.data, .sentinel] true :=
  Program.laidByTextLater.sub seatTie1 ["loop.example/pub-g03033/pub/circl/vdaf/fp64.rSquare", "loop.example/pub-g03033/pub/circl/vdaf/fp64.ErrFieldEltDecode"] (by kernel_rfl) (by kernel_rfl)
theorem fnOf64_row_tie : Rows.fnOf64Row.laidByTextAt .later Tryd.pinned [.data, .sentinel] true :=
  OpenClaim.laidByTextAt_later rfl rfl tie3 noOwnUnsafe
theorem fnJoin64Is_row_tie : Rows.fnJoin64IsRow.laidByTextAt .later Tryd.pinned [.data, .sentinel] true :=
  OpenClaim.laidByTextAt_later rfl rfl tie3 noOwnUnsafe
theorem tie4 : Tryd.prog.laidByTextLater [("loop.example/pub-g03033/pub/circl/vdaf/fp64.rSquare", Rows.laid_loop_example_pub_g03033_pub_circl_vdaf_fp64_rSquare)] [.data] true :=
  Program.laidByTextLater.sub seatTie1 ["loop.example/pub-g03033/pub/circl/vdaf/fp64.rSquare"] (by kernel_rfl) (by kernel_rfl)
theorem fnRing64_row_tie : Rows.fnRing64Row.laidByTextAt .later Tryd.pinned [.data] true :=
  OpenClaim.laidByTextAt_later rfl rfl tie4 noOwnUnsafe
theorem fnMul64Is_row_tie : Rows.fnMul64IsRow.laidByTextAt .later Tryd.pinned [.data] true :=
  OpenClaim.laidByTextAt_later rfl rfl tie4 noOwnUnsafe
theorem fnEvaluate64_row_tie : Rows.fnEvaluate64Row.laidByTextAt .later Tryd.pinned [.data] true :=
  OpenClaim.laidByTextAt_later rfl rfl tie4 noOwnUnsafe
theorem fnAdd64Is_row_tie : Rows.fnAdd64IsRow.laidByTextAt .later Tryd.pinned [.data] true :=
  OpenClaim.laidByTextAt_later rfl rfl tie4 noOwnUnsafe
theorem fnStrip64_row_tie : Rows.fnStrip64Row.laidByTextAt .later Tryd.pinned [.data] true :=
  OpenClaim.laidByTextAt_later rfl rfl tie4 noOwnUnsafe
theorem fnOrder64_row_tie : Rows.fnOrder64Row.laidByTextAt .later Tryd.pinned [.data] true :=
  OpenClaim.laidByTextAt_later rfl rfl tie4 noOwnUnsafe
theorem tie5 : Tryd.prog.laidByTextLater [("loop.example/pub-g03033/pub/circl/vdaf/fp64.rSquare", Rows.laid_loop_example_pub_g03033_pub_circl_vdaf_fp64_rSquare), ("loop.example/pub-g03033/pub/circl/vdaf/fp64.rootOfUnityTwoN", Rows.laid_loop_example_pub_g03033_pub_circl_vdaf_fp64_rootOfUnityTwoN), ("loop.example/pub-g03033/pub/circl/vdaf/fp64.ErrRootsOfUnity", Rows.laid_loop_example_pub_g03033_pub_circl_vdaf_fp64_ErrRootsOfUnity)] [.data, .data, .sentinel] true :=
  Program.laidByTextLater.sub seatTie1 ["loop.example/pub-g03033/pub/circl/vdaf/fp64.rSquare", "loop.example/pub-g03033/pub/circl/vdaf/fp64.rootOfUnityTwoN", "loop.example/pub-g03033/pub/circl/vdaf/fp64.ErrRootsOfUnity"] (by kernel_rfl) (by kernel_rfl)
theorem fnRootRoad64_row_tie : Rows.fnRootRoad64Row.laidByTextAt .later Tryd.pinned [.data, .data, .sentinel] true :=
  OpenClaim.laidByTextAt_later rfl rfl tie5 noOwnUnsafe
theorem tie6 : Tryd.prog.laidByTextLater [("loop.example/pub-g03033/pub/circl/vdaf/fp64.rSquare", Rows.laid_loop_example_pub_g03033_pub_circl_vdaf_fp64_rSquare), ("loop.example/pub-g03033/pub/circl/vdaf/fp64.half", Rows.laid_loop_example_pub_g03033_pub_circl_vdaf_fp64_half), ("loop.example/pub-g03033/pub/circl/vdaf/fp64.rootOfUnityTwoN", Rows.laid_loop_example_pub_g03033_pub_circl_vdaf_fp64_rootOfUnityTwoN), ("loop.example/pub-g03033/pub/circl/vdaf/fp64.inverseInt", Rows.laid_loop_example_pub_g03033_pub_circl_vdaf_fp64_inverseInt), ("loop.example/pub-g03033/pub/circl/vdaf/fp64.ErrFieldEltDecode", Rows.laid_loop_example_pub_g03033_pub_circl_vdaf_fp64_ErrFieldEltDecode)] [.data, .data, .data, .data, .sentinel] true :=
  Program.laidByTextLater.sub seatTie1 ["loop.example/pub-g03033/pub/circl/vdaf/fp64.rSquare", "loop.example/pub-g03033/pub/circl/vdaf/fp64.half", "loop.example/pub-g03033/pub/circl/vdaf/fp64.rootOfUnityTwoN", "loop.example/pub-g03033/pub/circl/vdaf/fp64.inverseInt", "loop.example/pub-g03033/pub/circl/vdaf/fp64.ErrFieldEltDecode"] (by kernel_rfl) (by kernel_rfl)
theorem fnInvOf64_row_tie : Rows.fnInvOf64Row.laidByTextAt .later Tryd.pinned [.data, .data, .data, .data, .sentinel] true :=
  OpenClaim.laidByTextAt_later rfl rfl tie6 noOwnUnsafe
theorem tie7 : Tryd.prog.laidByTextLater [("loop.example/pub-g03033/pub/circl/vdaf/fp64.rSquare", Rows.laid_loop_example_pub_g03033_pub_circl_vdaf_fp64_rSquare), ("loop.example/pub-g03033/pub/circl/vdaf/fp64.ErrMatchLen", Rows.laid_loop_example_pub_g03033_pub_circl_vdaf_fp64_ErrMatchLen)] [.data, .sentinel] true :=
  Program.laidByTextLater.sub seatTie1 ["loop.example/pub-g03033/pub/circl/vdaf/fp64.rSquare", "loop.example/pub-g03033/pub/circl/vdaf/fp64.ErrMatchLen"] (by kernel_rfl) (by kernel_rfl)
theorem fnPolySqr64_row_tie : Rows.fnPolySqr64Row.laidByTextAt .later Tryd.pinned [.data, .sentinel] true :=
  OpenClaim.laidByTextAt_later rfl rfl tie7 noOwnUnsafe
theorem fnVec64Is_row_tie : Rows.fnVec64IsRow.laidByTextAt .later Tryd.pinned [.data, .sentinel] true :=
  OpenClaim.laidByTextAt_later rfl rfl tie7 noOwnUnsafe
theorem tie8 : Tryd.prog.laidByTextLater [("loop.example/pub-g03033/pub/circl/vdaf/fp64.rSquare", Rows.laid_loop_example_pub_g03033_pub_circl_vdaf_fp64_rSquare), ("loop.example/pub-g03033/pub/circl/vdaf/fp64.rootOfUnityTwoN", Rows.laid_loop_example_pub_g03033_pub_circl_vdaf_fp64_rootOfUnityTwoN), ("loop.example/pub-g03033/pub/circl/vdaf/fp64.ErrFieldEltDecode", Rows.laid_loop_example_pub_g03033_pub_circl_vdaf_fp64_ErrFieldEltDecode), ("loop.example/pub-g03033/pub/circl/vdaf/fp64.ErrNumberTooLarge", Rows.laid_loop_example_pub_g03033_pub_circl_vdaf_fp64_ErrNumberTooLarge)] [.data, .data, .sentinel, .sentinel] true :=
  Program.laidByTextLater.sub seatTie1 ["loop.example/pub-g03033/pub/circl/vdaf/fp64.rSquare", "loop.example/pub-g03033/pub/circl/vdaf/fp64.rootOfUnityTwoN", "loop.example/pub-g03033/pub/circl/vdaf/fp64.ErrFieldEltDecode", "loop.example/pub-g03033/pub/circl/vdaf/fp64.ErrNumberTooLarge"] (by kernel_rfl) (by kernel_rfl)
theorem fnBits64_row_tie : Rows.fnBits64Row.laidByTextAt .later Tryd.pinned [.data, .data, .sentinel, .sentinel] true :=
  OpenClaim.laidByTextAt_later rfl rfl tie8 noOwnUnsafe
theorem tie9 : Tryd.prog.laidByTextLater [("math/bits.deBruijn32tab", Rows.laid_math_bits_deBruijn32tab), ("math/bits.deBruijn64tab", Rows.laid_math_bits_deBruijn64tab), ("loop.example/pub-g03033/pub/circl/vdaf/fp64.rSquare", Rows.laid_loop_example_pub_g03033_pub_circl_vdaf_fp64_rSquare), ("loop.example/pub-g03033/pub/circl/vdaf/fp64.rootOfUnityTwoN", Rows.laid_loop_example_pub_g03033_pub_circl_vdaf_fp64_rootOfUnityTwoN), ("loop.example/pub-g03033/pub/circl/vdaf/fp64.ErrRootsOfUnity", Rows.laid_loop_example_pub_g03033_pub_circl_vdaf_fp64_ErrRootsOfUnity)] [.data, .data, .data, .data, .sentinel] true :=
  Program.laidByTextLater.sub seatTie1 ["math/bits.deBruijn32tab", "math/bits.deBruijn64tab", "loop.example/pub-g03033/pub/circl/vdaf/fp64.rSquare", "loop.example/pub-g03033/pub/circl/vdaf/fp64.rootOfUnityTwoN", "loop.example/pub-g03033/pub/circl/vdaf/fp64.ErrRootsOfUnity"] (by kernel_rfl) (by kernel_rfl)
theorem fnNTT64Is_row_tie : Rows.fnNTT64IsRow.laidByTextAt .later Tryd.pinned [.data, .data, .data, .data, .sentinel] true :=
  OpenClaim.laidByTextAt_later rfl rfl tie9 noOwnUnsafe
theorem tie10 : Tryd.prog.laidByTextLater [("math/bits.deBruijn32tab", Rows.laid_math_bits_deBruijn32tab), ("math/bits.deBruijn64tab", Rows.laid_math_bits_deBruijn64tab), ("loop.example/pub-g03033/pub/circl/vdaf/fp64.rSquare", Rows.laid_loop_example_pub_g03033_pub_circl_vdaf_fp64_rSquare), ("loop.example/pub-g03033/pub/circl/vdaf/fp64.half", Rows.laid_loop_example_pub_g03033_pub_circl_vdaf_fp64_half), ("loop.example/pub-g03033/pub/circl/vdaf/fp64.rootOfUnityTwoN", Rows.laid_loop_example_pub_g03033_pub_circl_vdaf_fp64_rootOfUnityTwoN), ("loop.example/pub-g03033/pub/circl/vdaf/fp64.ErrMatchLen", Rows.laid_loop_example_pub_g03033_pub_circl_vdaf_fp64_ErrMatchLen), ("loop.example/pub-g03033/pub/circl/vdaf/fp64.ErrRootsOfUnity", Rows.laid_loop_example_pub_g03033_pub_circl_vdaf_fp64_ErrRootsOfUnity)] [.data, .data, .data, .data, .data, .sentinel, .sentinel] true :=
  Program.laidByTextLater.sub seatTie1 ["math/bits.deBruijn32tab", "math/bits.deBruijn64tab", "loop.example/pub-g03033/pub/circl/vdaf/fp64.rSquare", "loop.example/pub-g03033/pub/circl/vdaf/fp64.half", "loop.example/pub-g03033/pub/circl/vdaf/fp64.rootOfUnityTwoN", "loop.example/pub-g03033/pub/circl/vdaf/fp64.ErrMatchLen", "loop.example/pub-g03033/pub/circl/vdaf/fp64.ErrRootsOfUnity"] (by kernel_rfl) (by kernel_rfl)
theorem fnPolyMul64_row_tie : Rows.fnPolyMul64Row.laidByTextAt .later Tryd.pinned [.data, .data, .data, .data, .data, .sentinel, .sentinel] true :=
  OpenClaim.laidByTextAt_later rfl rfl tie10 noOwnUnsafe
theorem fnRoot64Upto_row_tie : Rows.fnRoot64UptoRow.laidByTextAt .later Tryd.pinned [.data, .sentinel] true :=
  OpenClaim.laidByTextAt_later rfl rfl tie noOwnUnsafe
theorem fnTells64Upto_row_tie : Rows.fnTells64UptoRow.laidByTextAt .later Tryd.pinned [.data, .data] true :=
  OpenClaim.laidByTextAt_later rfl rfl tie2 noOwnUnsafe
theorem fnOf64Upto_row_tie : Rows.fnOf64UptoRow.laidByTextAt .later Tryd.pinned [.data, .sentinel] true :=
  OpenClaim.laidByTextAt_later rfl rfl tie3 noOwnUnsafe
theorem fnRing64Upto_row_tie : Rows.fnRing64UptoRow.laidByTextAt .later Tryd.pinned [.data] true :=
  OpenClaim.laidByTextAt_later rfl rfl tie4 noOwnUnsafe
theorem fnMul64IsUpto_row_tie : Rows.fnMul64IsUptoRow.laidByTextAt .later Tryd.pinned [.data] true :=
  OpenClaim.laidByTextAt_later rfl rfl tie4 noOwnUnsafe
theorem fnEvaluate64Upto_row_tie : Rows.fnEvaluate64UptoRow.laidByTextAt .later Tryd.pinned [.data] true :=
  OpenClaim.laidByTextAt_later rfl rfl tie4 noOwnUnsafe
theorem fnAdd64IsUpto_row_tie : Rows.fnAdd64IsUptoRow.laidByTextAt .later Tryd.pinned [.data] true :=
  OpenClaim.laidByTextAt_later rfl rfl tie4 noOwnUnsafe
theorem fnStrip64Upto_row_tie : Rows.fnStrip64UptoRow.laidByTextAt .later Tryd.pinned [.data] true :=
  OpenClaim.laidByTextAt_later rfl rfl tie4 noOwnUnsafe
theorem fnOrder64Upto_row_tie : Rows.fnOrder64UptoRow.laidByTextAt .later Tryd.pinned [.data] true :=
  OpenClaim.laidByTextAt_later rfl rfl tie4 noOwnUnsafe
theorem fnRootRoad64Upto_row_tie : Rows.fnRootRoad64UptoRow.laidByTextAt .later Tryd.pinned [.data, .data, .sentinel] true :=
  OpenClaim.laidByTextAt_later rfl rfl tie5 noOwnUnsafe
theorem fnJoin64IsUpto_row_tie : Rows.fnJoin64IsUptoRow.laidByTextAt .later Tryd.pinned [.data, .sentinel] true :=
  OpenClaim.laidByTextAt_later rfl rfl tie3 noOwnUnsafe
theorem fnInvOf64Upto_row_tie : Rows.fnInvOf64UptoRow.laidByTextAt .later Tryd.pinned [.data, .data, .data, .data, .sentinel] true :=
  OpenClaim.laidByTextAt_later rfl rfl tie6 noOwnUnsafe
theorem fnInv64Upto_row_tie : Rows.fnInv64UptoRow.laidByTextAt .later Tryd.pinned [.data, .data] true :=
  OpenClaim.laidByTextAt_later rfl rfl tie2 noOwnUnsafe
theorem fnPolySqr64Upto_row_tie : Rows.fnPolySqr64UptoRow.laidByTextAt .later Tryd.pinned [.data, .sentinel] true :=
  OpenClaim.laidByTextAt_later rfl rfl tie7 noOwnUnsafe
theorem fnBits64Upto_row_tie : Rows.fnBits64UptoRow.laidByTextAt .later Tryd.pinned [.data, .data, .sentinel, .sentinel] true :=
  OpenClaim.laidByTextAt_later rfl rfl tie8 noOwnUnsafe
theorem fnVec64IsUpto_row_tie : Rows.fnVec64IsUptoRow.laidByTextAt .later Tryd.pinned [.data, .sentinel] true :=
  OpenClaim.laidByTextAt_later rfl rfl tie7 noOwnUnsafe
theorem fnNTT64IsUpto_row_tie : Rows.fnNTT64IsUptoRow.laidByTextAt .later Tryd.pinned [.data, .data, .data, .data, .sentinel] true :=
  OpenClaim.laidByTextAt_later rfl rfl tie9 noOwnUnsafe
theorem fnPolyMul64Upto_row_tie : Rows.fnPolyMul64UptoRow.laidByTextAt .later Tryd.pinned [.data, .data, .data, .data, .data, .sentinel, .sentinel] true :=
  OpenClaim.laidByTextAt_later rfl rfl tie10 noOwnUnsafe
end Go.Proofs.YtjjofnjhnoobpaaDoor
