/-
  DERIVED. GIVEN WITH THE SEED: THE PROGRAM's TIES (one call each: nine closed facts by the kernel) AND EACH ROW's TIE, after the 31st guide's Derived/Test/Toyas{Tie, Card}.lean. No idea stands in it: it is a product of the set-up. Laid BY PROGRAM, IN A SANDBOX (cutbox-door.mjs). By AI agents, Wed Nov 11 2026. No macro, syntax, notation, axiom, sorry.
-/
import Derived.Test.YtgdfdkpkhjbibaaDoorRows
import Derived.LaidByTextLater
import Derived.SevenTiedAt
import Derived.LaidSub
import Derived.LaidOnce
namespace Go.Proofs.YtgdfdkpkhjbibaaDoor
open Go
set_option maxRecDepth 100000
theorem seatTie1 : Tryd.prog.laidByTextLater [("loop.example/pub-g03033/pub/circl/vdaf/fp128.rSquare", Rows.laid_loop_example_pub_g03033_pub_circl_vdaf_fp128_rSquare), ("loop.example/pub-g03033/pub/circl/vdaf/fp128.rootOfUnityTwoN", Rows.laid_loop_example_pub_g03033_pub_circl_vdaf_fp128_rootOfUnityTwoN), ("loop.example/pub-g03033/pub/circl/vdaf/fp128.ErrMatchLen", Rows.laid_loop_example_pub_g03033_pub_circl_vdaf_fp128_ErrMatchLen), ("loop.example/pub-g03033/pub/circl/vdaf/fp128.ErrNumberTooLarge", Rows.laid_loop_example_pub_g03033_pub_circl_vdaf_fp128_ErrNumberTooLarge), ("loop.example/pub-g03033/pub/circl/vdaf/fp128.ErrRootsOfUnity", Rows.laid_loop_example_pub_g03033_pub_circl_vdaf_fp128_ErrRootsOfUnity)] [.data, .data, .sentinel, .sentinel, .sentinel] true :=
  Program.laidByTextLater_by_one 190 8 135 (by kernel_rfl) (by kernel_rfl) (by kernel_rfl) (by kernel_rfl) (by kernel_rfl) (by kernel_rfl) (fun _ _ => by kernel_rfl)
theorem seatTie2 : Tryd.prog.laidByTextLater [("loop.example/pub-g03033/pub/circl/vdaf/fp128.rSquare", Rows.laid_loop_example_pub_g03033_pub_circl_vdaf_fp128_rSquare), ("loop.example/pub-g03033/pub/circl/vdaf/fp128.half", Rows.laid_loop_example_pub_g03033_pub_circl_vdaf_fp128_half), ("loop.example/pub-g03033/pub/circl/vdaf/fp128.rootOfUnityTwoN", Rows.laid_loop_example_pub_g03033_pub_circl_vdaf_fp128_rootOfUnityTwoN), ("loop.example/pub-g03033/pub/circl/vdaf/fp128.inverseInt", Rows.laid_loop_example_pub_g03033_pub_circl_vdaf_fp128_inverseInt), ("loop.example/pub-g03033/pub/circl/vdaf/fp128.ErrFieldEltDecode", Rows.laid_loop_example_pub_g03033_pub_circl_vdaf_fp128_ErrFieldEltDecode)] [.data, .data, .data, .data, .sentinel] true :=
  Program.laidByTextLater_by_one 190 8 135 (by kernel_rfl) (by kernel_rfl) (by kernel_rfl) (by kernel_rfl) (by kernel_rfl) (by kernel_rfl) (fun _ _ => by kernel_rfl)
theorem seatTie3 : Tryd.prog.laidByTextLater [("math/bits.deBruijn32tab", Rows.laid_math_bits_deBruijn32tab), ("math/bits.deBruijn64tab", Rows.laid_math_bits_deBruijn64tab), ("loop.example/pub-g03033/pub/circl/vdaf/fp128.rSquare", Rows.laid_loop_example_pub_g03033_pub_circl_vdaf_fp128_rSquare), ("loop.example/pub-g03033/pub/circl/vdaf/fp128.rootOfUnityTwoN", Rows.laid_loop_example_pub_g03033_pub_circl_vdaf_fp128_rootOfUnityTwoN), ("loop.example/pub-g03033/pub/circl/vdaf/fp128.ErrRootsOfUnity", Rows.laid_loop_example_pub_g03033_pub_circl_vdaf_fp128_ErrRootsOfUnity)] [.data, .data, .data, .data, .sentinel] true :=
  Program.laidByTextLater_by_one 190 8 135 (by kernel_rfl) (by kernel_rfl) (by kernel_rfl) (by kernel_rfl) (by kernel_rfl) (by kernel_rfl) (fun _ _ => by kernel_rfl)
theorem seatTie4 : Tryd.prog.laidByTextLater [("math/bits.deBruijn32tab", Rows.laid_math_bits_deBruijn32tab), ("math/bits.deBruijn64tab", Rows.laid_math_bits_deBruijn64tab), ("loop.example/pub-g03033/pub/circl/vdaf/fp128.rSquare", Rows.laid_loop_example_pub_g03033_pub_circl_vdaf_fp128_rSquare), ("loop.example/pub-g03033/pub/circl/vdaf/fp128.half", Rows.laid_loop_example_pub_g03033_pub_circl_vdaf_fp128_half), ("loop.example/pub-g03033/pub/circl/vdaf/fp128.rootOfUnityTwoN", Rows.laid_loop_example_pub_g03033_pub_circl_vdaf_fp128_rootOfUnityTwoN), ("loop.example/pub-g03033/pub/circl/vdaf/fp128.ErrMatchLen", Rows.laid_loop_example_pub_g03033_pub_circl_vdaf_fp128_ErrMatchLen), ("loop.example/pub-g03033/pub/circl/vdaf/fp128.ErrRootsOfUnity", Rows.laid_loop_example_pub_g03033_pub_circl_vdaf_fp128_ErrRootsOfUnity)] [.data, .data, .data, .data, .data, .sentinel, .sentinel] true :=
  Program.laidByTextLater_by_one 190 8 135 (by kernel_rfl) (by kernel_rfl) (by kernel_rfl) (by kernel_rfl) (by kernel_rfl) (by kernel_rfl) (fun _ _ => by kernel_rfl)
theorem noOwnUnsafe : Tryd.pinned.checked.prog.headLifts.contains "ownunsafe" = false := by kernel_rfl
theorem tie : Tryd.prog.laidByTextLater [("loop.example/pub-g03033/pub/circl/vdaf/fp128.rootOfUnityTwoN", Rows.laid_loop_example_pub_g03033_pub_circl_vdaf_fp128_rootOfUnityTwoN), ("loop.example/pub-g03033/pub/circl/vdaf/fp128.ErrRootsOfUnity", Rows.laid_loop_example_pub_g03033_pub_circl_vdaf_fp128_ErrRootsOfUnity)] [.data, .sentinel] true :=
  Program.laidByTextLater.sub seatTie1 ["loop.example/pub-g03033/pub/circl/vdaf/fp128.rootOfUnityTwoN", "loop.example/pub-g03033/pub/circl/vdaf/fp128.ErrRootsOfUnity"] (by kernel_rfl) (by kernel_rfl)
theorem fnRoot128_row_tie : Rows.fnRoot128Row.laidByTextAt .later Tryd.pinned [.data, .sentinel] true :=
  OpenClaim.laidByTextAt_later rfl rfl tie noOwnUnsafe
theorem tie2 : Tryd.prog.laidByTextLater [("loop.example/pub-g03033/pub/circl/vdaf/fp128.rSquare", Rows.laid_loop_example_pub_g03033_pub_circl_vdaf_fp128_rSquare), ("loop.example/pub-g03033/pub/circl/vdaf/fp128.rootOfUnityTwoN", Rows.laid_loop_example_pub_g03033_pub_circl_vdaf_fp128_rootOfUnityTwoN)] [.data, .data] true :=
  Program.laidByTextLater.sub seatTie1 ["loop.example/pub-g03033/pub/circl/vdaf/fp128.rSquare", "loop.example/pub-g03033/pub/circl/vdaf/fp128.rootOfUnityTwoN"] (by kernel_rfl) (by kernel_rfl)
theorem fnTells128_row_tie : Rows.fnTells128Row.laidByTextAt .later Tryd.pinned [.data, .data] true :=
  OpenClaim.laidByTextAt_later rfl rfl tie2 noOwnUnsafe
theorem fnInv128_row_tie : Rows.fnInv128Row.laidByTextAt .later Tryd.pinned [.data, .data] true :=
  OpenClaim.laidByTextAt_later rfl rfl tie2 noOwnUnsafe
theorem tie3 : Tryd.prog.laidByTextLater [("loop.example/pub-g03033/pub/circl/vdaf/fp128.rSquare", Rows.laid_loop_example_pub_g03033_pub_circl_vdaf_fp128_rSquare), ("loop.example/pub-g03033/pub/circl/vdaf/fp128.ErrNumberTooLarge", Rows.laid_loop_example_pub_g03033_pub_circl_vdaf_fp128_ErrNumberTooLarge)] [.data, .sentinel] true :=
  Program.laidByTextLater.sub seatTie1 ["loop.example/pub-g03033/pub/circl/vdaf/fp128.rSquare", "loop.example/pub-g03033/pub/circl/vdaf/fp128.ErrNumberTooLarge"] (by kernel_rfl) (by kernel_rfl)
theorem fnOf128_row_tie : Rows.fnOf128Row.laidByTextAt .later Tryd.pinned [.data, .sentinel] true :=
  OpenClaim.laidByTextAt_later rfl rfl tie3 noOwnUnsafe
theorem tie4 : Tryd.prog.laidByTextLater [("loop.example/pub-g03033/pub/circl/vdaf/fp128.rSquare", Rows.laid_loop_example_pub_g03033_pub_circl_vdaf_fp128_rSquare)] [.data] true :=
  Program.laidByTextLater.sub seatTie1 ["loop.example/pub-g03033/pub/circl/vdaf/fp128.rSquare"] (by kernel_rfl) (by kernel_rfl)
theorem fnRing128_row_tie : Rows.fnRing128Row.laidByTextAt .later Tryd.pinned [.data] true :=
  OpenClaim.laidByTextAt_later rfl rfl tie4 noOwnUnsafe
theorem fnStrip128_row_tie : Rows.fnStrip128Row.laidByTextAt .later Tryd.pinned [.data] true :=
  OpenClaim.laidByTextAt_later rfl rfl tie4 noOwnUnsafe
theorem fnEvaluate128_row_tie : Rows.fnEvaluate128Row.laidByTextAt .later Tryd.pinned [.data] true :=
  OpenClaim.laidByTextAt_later rfl rfl tie4 noOwnUnsafe
theorem fnAdd128Is_row_tie : Rows.fnAdd128IsRow.laidByTextAt .later Tryd.pinned [.data] true :=
  OpenClaim.laidByTextAt_later rfl rfl tie4 noOwnUnsafe
theorem fnJoin128Is_row_tie : Rows.fnJoin128IsRow.laidByTextAt .later Tryd.pinned [.data] true :=
  OpenClaim.laidByTextAt_later rfl rfl tie4 noOwnUnsafe
theorem fnMul128Is_row_tie : Rows.fnMul128IsRow.laidByTextAt .later Tryd.pinned [.data] true :=
  OpenClaim.laidByTextAt_later rfl rfl tie4 noOwnUnsafe
theorem fnOrder128_row_tie : Rows.fnOrder128Row.laidByTextAt .later Tryd.pinned [.data] true :=
  OpenClaim.laidByTextAt_later rfl rfl tie4 noOwnUnsafe
theorem tie5 : Tryd.prog.laidByTextLater [("loop.example/pub-g03033/pub/circl/vdaf/fp128.rSquare", Rows.laid_loop_example_pub_g03033_pub_circl_vdaf_fp128_rSquare), ("loop.example/pub-g03033/pub/circl/vdaf/fp128.rootOfUnityTwoN", Rows.laid_loop_example_pub_g03033_pub_circl_vdaf_fp128_rootOfUnityTwoN), ("loop.example/pub-g03033/pub/circl/vdaf/fp128.ErrRootsOfUnity", Rows.laid_loop_example_pub_g03033_pub_circl_vdaf_fp128_ErrRootsOfUnity)] [.data, .data, .sentinel] true :=
  Program.laidByTextLater.sub seatTie1 ["loop.example/pub-g03033/pub/circl/vdaf/fp128.rSquare", "loop.example/pub-g03033/pub/circl/vdaf/fp128.rootOfUnityTwoN", "loop.example/pub-g03033/pub/circl/vdaf/fp128.ErrRootsOfUnity"] (by kernel_rfl) (by kernel_rfl)
theorem fnRootRoad128_row_tie : Rows.fnRootRoad128Row.laidByTextAt .later Tryd.pinned [.data, .data, .sentinel] true :=
  OpenClaim.laidByTextAt_later rfl rfl tie5 noOwnUnsafe
theorem tie6 : Tryd.prog.laidByTextLater [("loop.example/pub-g03033/pub/circl/vdaf/fp128.rSquare", Rows.laid_loop_example_pub_g03033_pub_circl_vdaf_fp128_rSquare), ("loop.example/pub-g03033/pub/circl/vdaf/fp128.rootOfUnityTwoN", Rows.laid_loop_example_pub_g03033_pub_circl_vdaf_fp128_rootOfUnityTwoN), ("loop.example/pub-g03033/pub/circl/vdaf/fp128.ErrNumberTooLarge", Rows.laid_loop_example_pub_g03033_pub_circl_vdaf_fp128_ErrNumberTooLarge)] [.data, .data, .sentinel] true :=
  Program.laidByTextLater.sub seatTie1 ["loop.example/pub-g03033/pub/circl/vdaf/fp128.rSquare", "loop.example/pub-g03033/pub/circl/vdaf/fp128.rootOfUnityTwoN", "loop.example/pub-g03033/pub/circl/vdaf/fp128.ErrNumberTooLarge"] (by kernel_rfl) (by kernel_rfl)
theorem fnBits128_row_tie : Rows.fnBits128Row.laidByTextAt .later Tryd.pinned [.data, .data, .sentinel] true :=
  OpenClaim.laidByTextAt_later rfl rfl tie6 noOwnUnsafe
theorem tie7 : Tryd.prog.laidByTextLater [("loop.example/pub-g03033/pub/circl/vdaf/fp128.rSquare", Rows.laid_loop_example_pub_g03033_pub_circl_vdaf_fp128_rSquare), ("loop.example/pub-g03033/pub/circl/vdaf/fp128.half", Rows.laid_loop_example_pub_g03033_pub_circl_vdaf_fp128_half), ("loop.example/pub-g03033/pub/circl/vdaf/fp128.rootOfUnityTwoN", Rows.laid_loop_example_pub_g03033_pub_circl_vdaf_fp128_rootOfUnityTwoN), ("loop.example/pub-g03033/pub/circl/vdaf/fp128.inverseInt", Rows.laid_loop_example_pub_g03033_pub_circl_vdaf_fp128_inverseInt), ("loop.example/pub-g03033/pub/circl/vdaf/fp128.ErrFieldEltDecode", Rows.laid_loop_example_pub_g03033_pub_circl_vdaf_fp128_ErrFieldEltDecode)] [.data, .data, .data, .data, .sentinel] true :=
  Program.laidByTextLater.sub seatTie2 ["loop.example/pub-g03033/pub/circl/vdaf/fp128.rSquare", "loop.example/pub-g03033/pub/circl/vdaf/fp128.half", "loop.example/pub-g03033/pub/circl/vdaf/fp128.rootOfUnityTwoN", "loop.example/pub-g03033/pub/circl/vdaf/fp128.inverseInt", "loop.example/pub-g03033/pub/circl/vdaf/fp128.ErrFieldEltDecode"] (by kernel_rfl) (by kernel_rfl)
theorem fnInvOf128_row_tie : Rows.fnInvOf128Row.laidByTextAt .later Tryd.pinned [.data, .data, .data, .data, .sentinel] true :=
  OpenClaim.laidByTextAt_later rfl rfl tie7 noOwnUnsafe
theorem tie8 : Tryd.prog.laidByTextLater [("loop.example/pub-g03033/pub/circl/vdaf/fp128.rSquare", Rows.laid_loop_example_pub_g03033_pub_circl_vdaf_fp128_rSquare), ("loop.example/pub-g03033/pub/circl/vdaf/fp128.ErrMatchLen", Rows.laid_loop_example_pub_g03033_pub_circl_vdaf_fp128_ErrMatchLen)] [.data, .sentinel] true :=
  Program.laidByTextLater.sub seatTie1 ["loop.example/pub-g03033/pub/circl/vdaf/fp128.rSquare", "loop.example/pub-g03033/pub/circl/vdaf/fp128.ErrMatchLen"] (by kernel_rfl) (by kernel_rfl)
theorem fnVec128Is_row_tie : Rows.fnVec128IsRow.laidByTextAt .later Tryd.pinned [.data, .sentinel] true :=
  OpenClaim.laidByTextAt_later rfl rfl tie8 noOwnUnsafe
theorem fnPolySqr128_row_tie : Rows.fnPolySqr128Row.laidByTextAt .later Tryd.pinned [.data, .sentinel] true :=
  OpenClaim.laidByTextAt_later rfl rfl tie8 noOwnUnsafe
theorem tie9 : Tryd.prog.laidByTextLater [("math/bits.deBruijn32tab", Rows.laid_math_bits_deBruijn32tab), ("math/bits.deBruijn64tab", Rows.laid_math_bits_deBruijn64tab), ("loop.example/pub-g03033/pub/circl/vdaf/fp128.rSquare", Rows.laid_loop_example_pub_g03033_pub_circl_vdaf_fp128_rSquare), ("loop.example/pub-g03033/pub/circl/vdaf/fp128.rootOfUnityTwoN", Rows.laid_loop_example_pub_g03033_pub_circl_vdaf_fp128_rootOfUnityTwoN), ("loop.example/pub-g03033/pub/circl/vdaf/fp128.ErrRootsOfUnity", Rows.laid_loop_example_pub_g03033_pub_circl_vdaf_fp128_ErrRootsOfUnity)] [.data, .data, .data, .data, .sentinel] true :=
  Program.laidByTextLater.sub seatTie3 ["math/bits.deBruijn32tab", "math/bits.deBruijn64tab", "loop.example/pub-g03033/pub/circl/vdaf/fp128.rSquare", "loop.example/pub-g03033/pub/circl/vdaf/fp128.rootOfUnityTwoN", "loop.example/pub-g03033/pub/circl/vdaf/fp128.ErrRootsOfUnity"] (by kernel_rfl) (by kernel_rfl)
theorem fnNTT128Is_row_tie : Rows.fnNTT128IsRow.laidByTextAt .later Tryd.pinned [.data, .data, .data, .data, .sentinel] true :=
  OpenClaim.laidByTextAt_later rfl rfl tie9 noOwnUnsafe
theorem tie10 : Tryd.prog.laidByTextLater [("math/bits.deBruijn32tab", Rows.laid_math_bits_deBruijn32tab), ("math/bits.deBruijn64tab", Rows.laid_math_bits_deBruijn64tab), ("loop.example/pub-g03033/pub/circl/vdaf/fp128.rSquare", Rows.laid_loop_example_pub_g03033_pub_circl_vdaf_fp128_rSquare), ("loop.example/pub-g03033/pub/circl/vdaf/fp128.half", Rows.laid_loop_example_pub_g03033_pub_circl_vdaf_fp128_half), ("loop.example/pub-g03033/pub/circl/vdaf/fp128.rootOfUnityTwoN", Rows.laid_loop_example_pub_g03033_pub_circl_vdaf_fp128_rootOfUnityTwoN), ("loop.example/pub-g03033/pub/circl/vdaf/fp128.ErrMatchLen", Rows.laid_loop_example_pub_g03033_pub_circl_vdaf_fp128_ErrMatchLen), ("loop.example/pub-g03033/pub/circl/vdaf/fp128.ErrRootsOfUnity", Rows.laid_loop_example_pub_g03033_pub_circl_vdaf_fp128_ErrRootsOfUnity)] [.data, .data, .data, .data, .data, .sentinel, .sentinel] true :=
  Program.laidByTextLater.sub seatTie4 ["math/bits.deBruijn32tab", "math/bits.deBruijn64tab", "loop.example/pub-g03033/pub/circl/vdaf/fp128.rSquare", "loop.example/pub-g03033/pub/circl/vdaf/fp128.half", "loop.example/pub-g03033/pub/circl/vdaf/fp128.rootOfUnityTwoN", "loop.example/pub-g03033/pub/circl/vdaf/fp128.ErrMatchLen", "loop.example/pub-g03033/pub/circl/vdaf/fp128.ErrRootsOfUnity"] (by kernel_rfl) (by kernel_rfl)
theorem fnPolyMul128_row_tie : Rows.fnPolyMul128Row.laidByTextAt .later Tryd.pinned [.data, .data, .data, .data, .data, .sentinel, .sentinel] true :=
  OpenClaim.laidByTextAt_later rfl rfl tie10 noOwnUnsafe
theorem fnRoot128Upto_row_tie : Rows.fnRoot128UptoRow.laidByTextAt .later Tryd.pinned [.data, .sentinel] true :=
  OpenClaim.laidByTextAt_later rfl rfl tie noOwnUnsafe
theorem fnTells128Upto_row_tie : Rows.fnTells128UptoRow.laidByTextAt .later Tryd.pinned [.data, .data] true :=
  OpenClaim.laidByTextAt_later rfl rfl tie2 noOwnUnsafe
theorem fnOf128Upto_row_tie : Rows.fnOf128UptoRow.laidByTextAt .later Tryd.pinned [.data, .sentinel] true :=
  OpenClaim.laidByTextAt_later rfl rfl tie3 noOwnUnsafe
theorem fnRing128Upto_row_tie : Rows.fnRing128UptoRow.laidByTextAt .later Tryd.pinned [.data] true :=
  OpenClaim.laidByTextAt_later rfl rfl tie4 noOwnUnsafe
theorem fnStrip128Upto_row_tie : Rows.fnStrip128UptoRow.laidByTextAt .later Tryd.pinned [.data] true :=
  OpenClaim.laidByTextAt_later rfl rfl tie4 noOwnUnsafe
theorem fnEvaluate128Upto_row_tie : Rows.fnEvaluate128UptoRow.laidByTextAt .later Tryd.pinned [.data] true :=
  OpenClaim.laidByTextAt_later rfl rfl tie4 noOwnUnsafe
theorem fnAdd128IsUpto_row_tie : Rows.fnAdd128IsUptoRow.laidByTextAt .later Tryd.pinned [.data] true :=
  OpenClaim.laidByTextAt_later rfl rfl tie4 noOwnUnsafe
theorem fnJoin128IsUpto_row_tie : Rows.fnJoin128IsUptoRow.laidByTextAt .later Tryd.pinned [.data] true :=
  OpenClaim.laidByTextAt_later rfl rfl tie4 noOwnUnsafe
theorem fnMul128IsUpto_row_tie : Rows.fnMul128IsUptoRow.laidByTextAt .later Tryd.pinned [.data] true :=
  OpenClaim.laidByTextAt_later rfl rfl tie4 noOwnUnsafe
theorem fnOrder128Upto_row_tie : Rows.fnOrder128UptoRow.laidByTextAt .later Tryd.pinned [.data] true :=
  OpenClaim.laidByTextAt_later rfl rfl tie4 noOwnUnsafe
theorem fnRootRoad128Upto_row_tie : Rows.fnRootRoad128UptoRow.laidByTextAt .later Tryd.pinned [.data, .data, .sentinel] true :=
  OpenClaim.laidByTextAt_later rfl rfl tie5 noOwnUnsafe
theorem fnBits128Upto_row_tie : Rows.fnBits128UptoRow.laidByTextAt .later Tryd.pinned [.data, .data, .sentinel] true :=
  OpenClaim.laidByTextAt_later rfl rfl tie6 noOwnUnsafe
theorem fnInvOf128Upto_row_tie : Rows.fnInvOf128UptoRow.laidByTextAt .later Tryd.pinned [.data, .data, .data, .data, .sentinel] true :=
  OpenClaim.laidByTextAt_later rfl rfl tie7 noOwnUnsafe
theorem fnInv128Upto_row_tie : Rows.fnInv128UptoRow.laidByTextAt .later Tryd.pinned [.data, .data] true :=
  OpenClaim.laidByTextAt_later rfl rfl tie2 noOwnUnsafe
theorem fnVec128IsUpto_row_tie : Rows.fnVec128IsUptoRow.laidByTextAt .later Tryd.pinned [.data, .sentinel] true :=
  OpenClaim.laidByTextAt_later rfl rfl tie8 noOwnUnsafe
theorem fnPolySqr128Upto_row_tie : Rows.fnPolySqr128UptoRow.laidByTextAt .later Tryd.pinned [.data, .sentinel] true :=
  OpenClaim.laidByTextAt_later rfl rfl tie8 noOwnUnsafe
theorem fnNTT128IsUpto_row_tie : Rows.fnNTT128IsUptoRow.laidByTextAt .later Tryd.pinned [.data, .data, .data, .data, .sentinel] true :=
  OpenClaim.laidByTextAt_later rfl rfl tie9 noOwnUnsafe
theorem fnPolyMul128Upto_row_tie : Rows.fnPolyMul128UptoRow.laidByTextAt .later Tryd.pinned [.data, .data, .data, .data, .data, .sentinel, .sentinel] true :=
  OpenClaim.laidByTextAt_later rfl rfl tie10 noOwnUnsafe
end Go.Proofs.YtgdfdkpkhjbibaaDoor
