/-
  What the condition on the package variables gives, variable by variable (written by genlb2.py).
-/
import Derived.Test.YtjjofnjhnoobpaaDoorLb
import Derived.Test.YtjjofnjhnoobpaaDoorHV
import Derived.Test.YtjjofnjhnoobpaaDoorSp3
import Derived.MakeChecks
namespace Go.Proofs.YtjjofnjhnoobpaaDoor
open Go.ChangeShapes Go.WideShapes Go.ChangeAt Go.WideElems Go.RowKit
theorem vars_at {P : Program} {W : World} : ∀ {l : List (String × DataW Unit)} {ps : List MemPlace}, DataW.LaidVars P W l ps → ∀ n d, (n, d) ∈ l →
    ∃ g t cs f p, P.globalNamed n = some g ∧ (P.globals[g]?).map (·.type) = some t ∧ W.var? P n = some cs ∧ DataW.trod (fun _ => ()) P W 0 (fun _ => true) false f t cs.toList = some (d, p)
  | [], _, _, _, _, hm => by cases hm
  | (n0, d0) :: l, ps, h, n, d, hm => by
    obtain ⟨g, t, cs, f, p, q, h1, h2, h3, h4, h5, _⟩ := h
    rcases List.mem_cons.1 hm with e | hm
    · cases e; exact ⟨g, t, cs, f, p, h1, h2, h3, h4⟩
    · exact vars_at h5 n d hm
theorem laid_at {P : Program} {W : World} {l : List (String × DataW Unit)} (hp : (l.all fun x => x.2.handleName?.isNone) = true) (h : laidMetH P l W) (i : Nat) {n : String} {d : DataW Unit} (hm : l[i]? = some (n, d)) :
    ∃ g t cs f p, P.globalNamed n = some g ∧ (P.globals[g]?).map (·.type) = some t ∧ W.var? P n = some cs ∧ DataW.trod (fun _ => ()) P W 0 (fun _ => true) false f t cs.toList = some (d, p) := by
  rw [MakeChecks.laidMetH_plain _ _ _ hp] at h
  obtain ⟨ps, h, _⟩ := h
  exact vars_at h n d (List.mem_of_getElem? hm)
theorem trodVars_len {H : Type} {enc : TypeId × Value → H} {P : Program} {W : World} {sp : Nat → Bool} : ∀ {ns : List String} {gs : List (DataW H)} {ps : List MemPlace}, DataW.TrodVars enc P W sp ns gs ps → gs.length = ns.length
  | [], [], _, _ => rfl
  | [], _ :: _, _, h => h.elim
  | _ :: _, [], _, h => h.elim
  | _ :: _, _ :: _, _, h => by
    obtain ⟨_, _, _, _, _, _, _, _, _, _, h5, _⟩ := h
    simp [trodVars_len h5]
section
variable {H : Type} {enc : TypeId × Value → H} {P : Program} {W : World} {b0 : Nat} {sp : Nat → Bool} {held : Bool}
theorem arr_ints {f T U n : Nat} {k : IntKind} {cs : List Value} {ds : List Int} {p : List MemPlace} (hT : P.underlying T = some (.array n U)) (hU : P.underlying U = some (.int k)) (hc : P.cellsOf U = 1)
    (h : DataW.trod enc P W b0 sp held f T cs = some (.agg (ds.map fun x => .lit (.int k x)), p)) : ∀ (i : Nat) (x : Int), ds[i]? = some x → cs[i]? = some (Value.int k x) := by
  obtain ⟨xs, m, _, hx, _, hn, hel⟩ := DataW.trod_array hT h
  have hx1 : ds.map (fun x => (.lit (.int k x) : DataW H)) = xs.map (·.1) := by
    have := congrArg Prod.fst hx
    simpa using this
  intro i x hi
  have h1 : (xs.map (·.1))[i]? = some (DataW.lit (Lit.int k x)) := by rw [← hx1]; simp [hi]
  rw [List.getElem?_map] at h1
  cases hy : xs[i]? with
  | none => simp [hy] at h1
  | some y =>
    rw [hy] at h1
    have hil : i < xs.length := (List.getElem?_eq_some_iff.1 hy).1
    have h2 := hel i (by omega)
    rw [hy, hc] at h2
    obtain ⟨z, e1, e2, _⟩ := DataW.trod_int hU h2
    have h3 : y.1 = DataW.lit (Lit.int k x) := Option.some.inj h1
    rw [e2] at h3
    have hz : z = x := by simpa using h3
    subst hz
    have : ((List.drop (i * 1) cs).take 1)[0]? = some (Value.int k z) := by rw [e1]; rfl
    simpa [List.getElem?_take, List.getElem?_drop] using this
theorem arr_arr {f T E n m : Nat} {cs : List Value} {ds : List (DataW H)} {p : List MemPlace} (hT : P.underlying T = some (.array n E)) (hc : P.cellsOf E = m)
    (h : DataW.trod enc P W b0 sp held f T cs = some (.agg ds, p)) : ∀ i d, ds[i]? = some d → ∃ f' p', DataW.trod enc P W b0 sp held f' E ((cs.drop (i * m)).take m) = some (d, p') := by
  obtain ⟨xs, m', _, hx, _, hn, hel⟩ := DataW.trod_array hT h
  have hx1 : ds = xs.map (·.1) := by
    have := congrArg Prod.fst hx
    simpa using this
  intro i d hi
  rw [hx1, List.getElem?_map] at hi
  cases hy : xs[i]? with
  | none => simp [hy] at hi
  | some y =>
    rw [hy] at hi
    have hil : i < xs.length := (List.getElem?_eq_some_iff.1 hy).1
    have h2 := hel i (by omega)
    rw [hy, hc] at h2
    exact ⟨m', y.2, by rw [h2, ← Option.some.inj hi]⟩
theorem iface_cell {f T : Nat} {ms : Array (String × TypeId)} {cs : List Value} {s : String} {d : DataW H} {p : List MemPlace} (hT : P.underlying T = some (.interface ms))
    (h : DataW.trod enc P W b0 sp held f T cs = some (.iface s d, p)) : ∃ u x, cs = [.iface u x] := by
  cases f with
  | zero => simp [DataW.trod] at h
  | succ m =>
    unfold DataW.trod at h
    rw [hT] at h
    split at h <;> simp_all
end
theorem raw_lms (x : Nat) : ∀ j : Nat, (rawC x)[j]? = ((lms x)[j]?).map fun y : Nat => Value.int .u64 ((y : Nat) : Int) := fun j => by
  match j with
  | 0 => rfl
  | j + 1 => simp [rawC, lms]
/-- A table of elements of a package variable. -/
theorem raw_tab {W : World} {g T m f : Nat} {nm : String} {l : List Nat} {cs : Array Value} {p : List MemPlace} (hT : Tryd.prog.underlying T = some (.array m 82)) (hc : Tryd.prog.cellsOf 82 = 1)
    (hg : Tryd.prog.globalNamed nm = some g) (hv : W.var? Tryd.prog nm = some cs) (hd : DataW.trod (fun _ => ()) Tryd.prog W 0 (fun _ => true) false f T cs.toList = some (.agg (l.map fun x => .agg ((lms x).map fun y : Nat => .lit (.int .u64 ((y : Nat) : Int)))), p)) :
    ∀ i, i < l.length → RawAt W g (i * 1) (l.getD i 0) := fun i hi j v hj => by
  have e0 : l[i]? = some (l.getD i 0) := by simp [List.getD, hi]
  obtain ⟨f', p', h1⟩ := arr_arr hT hc hd i (.agg ((lms (l.getD i 0)).map fun y : Nat => .lit (.int .u64 ((y : Nat) : Int)))) (by rw [List.getElem?_map, e0]; rfl)
  rw [raw_lms] at hj
  cases hy : (lms (l.getD i 0))[j]? with
  | none => rw [hy] at hj; cases hj
  | some y =>
    rw [hy] at hj
    obtain rfl := Option.some.inj hj
    have h2 := arr_ints (p := p') (ds := (lms (l.getD i 0)).map fun y : Nat => ((y : Nat) : Int)) Tryd.underlying82 Tryd.underlying23 cU64 (by rw [h1]; simp [List.map_map, Function.comp_def]) j (y : Int) (by rw [List.getElem?_map, hy]; rfl)
    have hj2 : j < 1 := (List.getElem?_eq_some_iff.1 hy).1
    rw [List.getElem?_take, if_pos hj2, List.getElem?_drop] at h2
    rw [World.var?_cell hg hv (i * 1 + j)]
    simpa using h2
/-- One element of a package variable. -/
theorem raw_one {W : World} {g f : Nat} {nm : String} {x : Nat} {cs : Array Value} {p : List MemPlace} (hg : Tryd.prog.globalNamed nm = some g) (hv : W.var? Tryd.prog nm = some cs)
    (hd : DataW.trod (fun _ => ()) Tryd.prog W 0 (fun _ => true) false f 82 cs.toList = some (.agg ((lms x).map fun y : Nat => .lit (.int .u64 ((y : Nat) : Int))), p)) : RawAt W g 0 x := fun j v hj => by
  rw [raw_lms] at hj
  cases hy : (lms x)[j]? with
  | none => rw [hy] at hj; cases hj
  | some y =>
    rw [hy] at hj
    obtain rfl := Option.some.inj hj
    have h2 := arr_ints (p := p) (ds := (lms x).map fun y : Nat => ((y : Nat) : Int)) Tryd.underlying82 Tryd.underlying23 cU64 (by rw [hd]; simp [List.map_map, Function.comp_def]) j (y : Int) (by rw [List.getElem?_map, hy]; rfl)
    rw [Nat.zero_add, World.var?_cell hg hv j]
    simpa using h2

theorem gvR : Tryd.prog.globalNamed "loop.example/pub-g03033/pub/circl/vdaf/fp64.rSquare" = some 8 := by kernel_rfl
theorem tvR : (Tryd.prog.globals[8]?).map (·.type) = some 82 := by kernel_rfl
theorem dR : Rows.laid_loop_example_pub_g03033_pub_circl_vdaf_fp64_rSquare = (.agg ((lms r2f).map fun y : Nat => .lit (.int .u64 ((y : Nat) : Int))) : DataW Unit) := by kernel_rfl
theorem gr_at {W : World} (h : ∃ g t cs f p, Tryd.prog.globalNamed "loop.example/pub-g03033/pub/circl/vdaf/fp64.rSquare" = some g ∧ (Tryd.prog.globals[g]?).map (·.type) = some t ∧ W.var? Tryd.prog "loop.example/pub-g03033/pub/circl/vdaf/fp64.rSquare" = some cs ∧ DataW.trod (fun _ => ()) Tryd.prog W 0 (fun _ => true) false f t cs.toList = some (Rows.laid_loop_example_pub_g03033_pub_circl_vdaf_fp64_rSquare, p)) : GR W := by
  obtain ⟨g, t, cs, f, p, h1, h2, h3, h4⟩ := h
  obtain rfl := Option.some.inj (gvR.symm.trans h1)
  obtain rfl := Option.some.inj (tvR.symm.trans h2)
  rw [dR] at h4
  exact raw_one gvR h3 h4

theorem gvH : Tryd.prog.globalNamed "loop.example/pub-g03033/pub/circl/vdaf/fp64.half" = some 5 := by kernel_rfl
theorem tvH : (Tryd.prog.globals[5]?).map (·.type) = some 82 := by kernel_rfl
/-- Half of one, as it is laid, and as a number. -/
def halfM : Nat := 9223372036854775808
def halfP : Nat := 9223372034707292161
theorem half_mont : mont halfP = halfM := by rw [mont_eq]; decide +kernel
theorem half_lt : halfP < pf := by decide +kernel
theorem half_two : halfP * 2 % pf = 1 := by decide +kernel
theorem dH : Rows.laid_loop_example_pub_g03033_pub_circl_vdaf_fp64_half = (.agg ((lms halfM).map fun y : Nat => .lit (.int .u64 ((y : Nat) : Int))) : DataW Unit) := by kernel_rfl
def HF (W : World) : Prop := RawAt W 5 0 halfM
theorem HF.sn {D : Nat → Bool} {w0 w : World} (h : HF w0) (hs : Sn D w0 w) (hd : D 5 = false) : HF w := RawAt.sn h hs hd
theorem HF.lt {w : World} (h : HF w) : 5 < w.heap.size := World.block_lt_of_cell? w ⟨5, 0 + 0, none⟩ (h 0 _ rfl)
theorem hf_at {W : World} (h : ∃ g t cs f p, Tryd.prog.globalNamed "loop.example/pub-g03033/pub/circl/vdaf/fp64.half" = some g ∧ (Tryd.prog.globals[g]?).map (·.type) = some t ∧ W.var? Tryd.prog "loop.example/pub-g03033/pub/circl/vdaf/fp64.half" = some cs ∧ DataW.trod (fun _ => ()) Tryd.prog W 0 (fun _ => true) false f t cs.toList = some (Rows.laid_loop_example_pub_g03033_pub_circl_vdaf_fp64_half, p)) : HF W := by
  obtain ⟨g, t, cs, f, p, h1, h2, h3, h4⟩ := h
  obtain rfl := Option.some.inj (gvH.symm.trans h1)
  obtain rfl := Option.some.inj (tvH.symm.trans h2)
  rw [dH] at h4
  exact raw_one gvH h3 h4

theorem gvT : Tryd.prog.globalNamed "loop.example/pub-g03033/pub/circl/vdaf/fp64.rootOfUnityTwoN" = some 1 := by kernel_rfl
theorem tvT : (Tryd.prog.globals[1]?).map (·.type) = some 115 := by kernel_rfl
def rtL : List Nat := [4294967295, 18446744065119617026, 18446744069414518785, 18374686475393433601, 268435456, 18446673700670406657, 18446744069414584193, 576460752303421440, 16576810576923738718, 6647628942875889800, 10087739294013848503, 2135208489130820273, 10781050935026037169, 3878014442329970502, 1205735313231991947, 2523909884358325590, 13797134855221748930, 12267112747022536458, 430584883067102937, 10135969988448727187, 6815045114074884550, 3616995587998296759, 16605412514144166046, 3961981891181468770, 14053449032146768478, 7984864372213488273, 8707395988713065759, 10473709294003837707, 20904484799587963, 11848168407699165279, 13288442737737738162, 6163429357473536562, 15733474329512464024]
def rtP : List Nat := [1, 18446744069414584320, 281474976710656, 18446744069397807105, 17293822564807737345, 70368744161280, 549755813888, 17870292113338400769, 13797081185216407910, 1803076106186727246, 11353340290879379826, 455906449640507599, 17492915097719143606, 1532612707718625687, 16207902636198568418, 17776499369601055404, 6115771955107415310, 12380578893860276750, 9306717745644682924, 18146160046829613826, 3511170319078647661, 17654865857378133588, 5416168637041100469, 16905767614792059275, 9713644485405565297, 5456943929260765144, 17096174751763063430, 1213594585890690845, 6414415596519834757, 16116352524544190054, 9123114210336311365, 4614640910117430873, 1753635133440165772]
def rt (i : Nat) : Nat := rtP.getD i 0
set_option maxRecDepth 100000 in
theorem rt_all : ∀ i, i < 33 → rt i * rf % pf = rtL.getD i 0 ∧ rt i < pf := by decide +kernel
theorem rt_mont {i : Nat} (h : i < 33) : mont (rt i) = rtL.getD i 0 := by rw [mont_eq]; exact (rt_all i h).1
theorem rt_lt {i : Nat} (h : i < 33) : rt i < pf := (rt_all i h).2
set_option maxRecDepth 100000 in
theorem dT : Rows.laid_loop_example_pub_g03033_pub_circl_vdaf_fp64_rootOfUnityTwoN = (.agg (rtL.map fun x => .agg ((lms x).map fun y : Nat => .lit (.int .u64 ((y : Nat) : Int)))) : DataW Unit) := by kernel_rfl
def RT (W : World) : Prop := ∀ i, i < 33 → RawAt W 1 (i * 1) (mont (rt i))
theorem RT.sn {D : Nat → Bool} {w0 w : World} (h : RT w0) (hs : Sn D w0 w) (hd : D 1 = false) : RT w := fun i hi => RawAt.sn (h i hi) hs hd
theorem RT.lt {w : World} (h : RT w) : 1 < w.heap.size := World.block_lt_of_cell? w ⟨1, 0 * 1 + 0, none⟩ (h 0 (by decide) 0 _ rfl)
theorem rt_at {W : World} (h : ∃ g t cs f p, Tryd.prog.globalNamed "loop.example/pub-g03033/pub/circl/vdaf/fp64.rootOfUnityTwoN" = some g ∧ (Tryd.prog.globals[g]?).map (·.type) = some t ∧ W.var? Tryd.prog "loop.example/pub-g03033/pub/circl/vdaf/fp64.rootOfUnityTwoN" = some cs ∧ DataW.trod (fun _ => ()) Tryd.prog W 0 (fun _ => true) false f t cs.toList = some (Rows.laid_loop_example_pub_g03033_pub_circl_vdaf_fp64_rootOfUnityTwoN, p)) : RT W := by
  obtain ⟨g, t, cs, f, p, h1, h2, h3, h4⟩ := h
  obtain rfl := Option.some.inj (gvT.symm.trans h1)
  obtain rfl := Option.some.inj (tvT.symm.trans h2)
  rw [dT] at h4
  intro i hi
  rw [rt_mont hi]
  exact raw_tab Tryd.underlying115 cFp gvT h3 h4 i hi

theorem gvI : Tryd.prog.globalNamed "loop.example/pub-g03033/pub/circl/vdaf/fp64.inverseInt" = some 4 := by kernel_rfl
theorem tvI : (Tryd.prog.globals[4]?).map (·.type) = some 122 := by kernel_rfl
def ivL : List Nat := [4294967295, 9223372036854775808, 1431655765, 4611686018427387904, 858993459, 9223372035423120043, 7905747458934102894, 2305843009213693952]
def ivP : List Nat := [1, 9223372034707292161, 12297829379609722881, 13835058052060938241, 14757395255531667457, 15372286724512153601, 2635249152773512046, 16140901060737761281]
def iv (i : Nat) : Nat := ivP.getD i 0
set_option maxRecDepth 100000 in
theorem iv_all : ∀ i, i < 8 → iv i * rf % pf = ivL.getD i 0 ∧ iv i < pf := by decide +kernel
theorem iv_mont {i : Nat} (h : i < 8) : mont (iv i) = ivL.getD i 0 := by rw [mont_eq]; exact (iv_all i h).1
theorem iv_lt {i : Nat} (h : i < 8) : iv i < pf := (iv_all i h).2
set_option maxRecDepth 100000 in
theorem dI : Rows.laid_loop_example_pub_g03033_pub_circl_vdaf_fp64_inverseInt = (.agg (ivL.map fun x => .agg ((lms x).map fun y : Nat => .lit (.int .u64 ((y : Nat) : Int)))) : DataW Unit) := by kernel_rfl
def IV (W : World) : Prop := ∀ i, i < 8 → RawAt W 4 (i * 1) (mont (iv i))
theorem IV.sn {D : Nat → Bool} {w0 w : World} (h : IV w0) (hs : Sn D w0 w) (hd : D 4 = false) : IV w := fun i hi => RawAt.sn (h i hi) hs hd
theorem IV.lt {w : World} (h : IV w) : 4 < w.heap.size := World.block_lt_of_cell? w ⟨4, 0 * 1 + 0, none⟩ (h 0 (by decide) 0 _ rfl)
theorem iv_at {W : World} (h : ∃ g t cs f p, Tryd.prog.globalNamed "loop.example/pub-g03033/pub/circl/vdaf/fp64.inverseInt" = some g ∧ (Tryd.prog.globals[g]?).map (·.type) = some t ∧ W.var? Tryd.prog "loop.example/pub-g03033/pub/circl/vdaf/fp64.inverseInt" = some cs ∧ DataW.trod (fun _ => ()) Tryd.prog W 0 (fun _ => true) false f t cs.toList = some (Rows.laid_loop_example_pub_g03033_pub_circl_vdaf_fp64_inverseInt, p)) : IV W := by
  obtain ⟨g, t, cs, f, p, h1, h2, h3, h4⟩ := h
  obtain rfl := Option.some.inj (gvI.symm.trans h1)
  obtain rfl := Option.some.inj (tvI.symm.trans h2)
  rw [dI] at h4
  intro i hi
  rw [iv_mont hi]
  exact raw_tab Tryd.underlying122 cFp gvI h3 h4 i hi

theorem gvD : Tryd.prog.globalNamed "math/bits.deBruijn64tab" = some 11 := by kernel_rfl
theorem tvD : (Tryd.prog.globals[11]?).map (·.type) = some 149 := by kernel_rfl
def dbL : List Nat := [0, 1, 56, 2, 57, 49, 28, 3, 61, 58, 42, 50, 38, 29, 17, 4, 62, 47, 59, 36, 45, 43, 51, 22, 53, 39, 33, 30, 24, 18, 12, 5, 63, 55, 48, 27, 60, 41, 37, 16, 46, 35, 44, 21, 52, 32, 23, 11, 54, 26, 40, 15, 34, 20, 31, 10, 25, 14, 19, 9, 13, 8, 7, 6]
theorem cU8 : Tryd.prog.cellsOf 5 = 1 := by kernel_rfl
theorem dD : Rows.laid_math_bits_deBruijn64tab = (.agg ((dbL.map fun x : Nat => ((x : Nat) : Int)).map fun y => .lit (.int .u8 y)) : DataW Unit) := by kernel_rfl
def DB (W : World) : Prop := ∀ i, i < 64 → W.cell? ⟨11, i, none⟩ = some (.int .u8 ((dbL.getD i 0 : Nat) : Int))
theorem DB.sn {D : Nat → Bool} {w0 w : World} (h : DB w0) (hs : Sn D w0 w) (hd : D 11 = false) : DB w := fun i hi => hs.cell (h i hi) hd
theorem db_at {W : World} (h : ∃ g t cs f p, Tryd.prog.globalNamed "math/bits.deBruijn64tab" = some g ∧ (Tryd.prog.globals[g]?).map (·.type) = some t ∧ W.var? Tryd.prog "math/bits.deBruijn64tab" = some cs ∧ DataW.trod (fun _ => ()) Tryd.prog W 0 (fun _ => true) false f t cs.toList = some (Rows.laid_math_bits_deBruijn64tab, p)) : DB W := by
  obtain ⟨g, t, cs, f, p, h1, h2, h3, h4⟩ := h
  obtain rfl := Option.some.inj (gvD.symm.trans h1)
  obtain rfl := Option.some.inj (tvD.symm.trans h2)
  rw [dD] at h4
  intro i hi
  have e0 : dbL[i]? = some (dbL.getD i 0) := by simp [List.getD, show i < dbL.length from hi]
  have h5 := arr_ints Tryd.underlying149 Tryd.underlying5 cU8 h4 i ((dbL.getD i 0 : Nat) : Int) (by rw [List.getElem?_map, e0]; rfl)
  rw [World.var?_cell gvD h3 i]
  simpa using h5

theorem gvE : Tryd.prog.globalNamed "loop.example/pub-g03033/pub/circl/vdaf/fp64.ErrFieldEltDecode" = some 2 := by kernel_rfl
theorem tvE : (Tryd.prog.globals[2]?).map (·.type) = some 92 := by kernel_rfl
/-- The variable holds an error. -/
def ERE (W : World) : Prop := ∃ u x, W.cell? ⟨2, 0, none⟩ = some (.iface u x)
theorem erE_at {W : World} (h : ∃ g t cs f p, Tryd.prog.globalNamed "loop.example/pub-g03033/pub/circl/vdaf/fp64.ErrFieldEltDecode" = some g ∧ (Tryd.prog.globals[g]?).map (·.type) = some t ∧ W.var? Tryd.prog "loop.example/pub-g03033/pub/circl/vdaf/fp64.ErrFieldEltDecode" = some cs ∧ DataW.trod (fun _ => ()) Tryd.prog W 0 (fun _ => true) false f t cs.toList = some (Rows.laid_loop_example_pub_g03033_pub_circl_vdaf_fp64_ErrFieldEltDecode, p)) : ERE W := by
  obtain ⟨g, t, cs, f, p, h1, h2, h3, h4⟩ := h
  obtain rfl := Option.some.inj (gvE.symm.trans h1)
  obtain rfl := Option.some.inj (tvE.symm.trans h2)
  unfold Rows.laid_loop_example_pub_g03033_pub_circl_vdaf_fp64_ErrFieldEltDecode at h4
  obtain ⟨u, x, e⟩ := iface_cell Tryd.underlying92 h4
  refine ⟨u, x, ?_⟩
  have := World.var?_cell gvE h3 0
  rw [this, ← Array.getElem?_toList, e]; rfl

theorem gvN : Tryd.prog.globalNamed "loop.example/pub-g03033/pub/circl/vdaf/fp64.ErrNumberTooLarge" = some 6 := by kernel_rfl
theorem tvN : (Tryd.prog.globals[6]?).map (·.type) = some 92 := by kernel_rfl
/-- The variable holds an error. -/
def ERN (W : World) : Prop := ∃ u x, W.cell? ⟨6, 0, none⟩ = some (.iface u x)
theorem erN_at {W : World} (h : ∃ g t cs f p, Tryd.prog.globalNamed "loop.example/pub-g03033/pub/circl/vdaf/fp64.ErrNumberTooLarge" = some g ∧ (Tryd.prog.globals[g]?).map (·.type) = some t ∧ W.var? Tryd.prog "loop.example/pub-g03033/pub/circl/vdaf/fp64.ErrNumberTooLarge" = some cs ∧ DataW.trod (fun _ => ()) Tryd.prog W 0 (fun _ => true) false f t cs.toList = some (Rows.laid_loop_example_pub_g03033_pub_circl_vdaf_fp64_ErrNumberTooLarge, p)) : ERN W := by
  obtain ⟨g, t, cs, f, p, h1, h2, h3, h4⟩ := h
  obtain rfl := Option.some.inj (gvN.symm.trans h1)
  obtain rfl := Option.some.inj (tvN.symm.trans h2)
  unfold Rows.laid_loop_example_pub_g03033_pub_circl_vdaf_fp64_ErrNumberTooLarge at h4
  obtain ⟨u, x, e⟩ := iface_cell Tryd.underlying92 h4
  refine ⟨u, x, ?_⟩
  have := World.var?_cell gvN h3 0
  rw [this, ← Array.getElem?_toList, e]; rfl
end Go.Proofs.YtjjofnjhnoobpaaDoor
