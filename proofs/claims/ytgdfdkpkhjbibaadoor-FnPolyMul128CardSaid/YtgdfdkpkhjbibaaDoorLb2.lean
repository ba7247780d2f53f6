/-
  What the condition on the package variables gives, variable by variable (written by genlb2.py).
-/
import Derived.Test.YtgdfdkpkhjbibaaDoorLb
import Derived.Test.YtgdfdkpkhjbibaaDoorHV
import Derived.Test.YtgdfdkpkhjbibaaDoorSp3
import Derived.MakeChecks
namespace Go.Proofs.YtgdfdkpkhjbibaaDoor
open Go.ChangeShapes Go.WideShapes Go.ChangeAt Go.WideElems Go.RowKit
theorem vars_at {P : Program} {W : World} : ∀ {l : List (String × DataW Unit)} {ps : List MemPlace}, DataW.LaidVars P W l ps → ∀ n d, (n, d) ∈ l →
    ∃ g t cs f p, P.globalNamed n = some g ∧ (P.globals[g]?).map (·.type) = some t ∧ W.var? P n = some cs ∧ DataW.trod (fun _ => ()) P W 0 (fun _ => true) false f t cs.toList = some (d, p)
  | [], _, _, _, _, hm => by cases hm
  | (n0, d0) :: l, ps, h, n, d, hm => by
    obtain ⟨g, t, cs, f, p, q, h1, h2, h3, h4, h5, _⟩ := h
    rcases List.mem_cons.1 hm with e | hm
    · cases e; exact ⟨g, t, cs, f, p, h1, h2, h3, h4⟩
    · exact vars_at h5 n d hm
theorem laid_at {P : Program} {W : World} {l : List (String × DataW Unit)} (hp : (l.all fun x => x.2.handleName?.isNone) = true) (h : laidMetH P l W) (i : Nat) {n : String} {d : DataW Unit} (hm : l[i]? = some (n, d)) :
    ∃ g t cs f p, P.globalNamed n = some g ∧ (P.globals[g]?).map (·.type) = some t ∧ W.var? P n = some cs ∧ DataW.trod (fun _ => ()) P W 0 (fun _ => true) false f t cs.toList = some (d, p) := by
  rw [MakeChecks.laidMetH_plain _ _ _ hp] at h
  obtain ⟨ps, h, _⟩ := h
  exact vars_at h n d (List.mem_of_getElem? hm)
theorem trodVars_len {H : Type} {enc : TypeId × Value → H} {P : Program} {W : World} {sp : Nat → Bool} : ∀ {ns : List String} {gs : List (DataW H)} {ps : List MemPlace}, DataW.TrodVars enc P W sp ns gs ps → gs.length = ns.length
  | [], [], _, _ => rfl
  | [], _ :: _, _, h => h.elim
  | _ :: _, [], _, h => h.elim
  | _ :: _, _ :: _, _, h => by
    obtain ⟨_, _, _, _, _, _, _, _, _, _, h5, _⟩ := h
    simp [trodVars_len h5]
section
variable {H : Type} {enc : TypeId × Value → H} {P : Program} {W : World} {b0 : Nat} {sp : Nat → Bool} {held : Bool}
theorem arr_ints {f T U n : Nat} {k : IntKind} {cs : List Value} {ds : List Int} {p : List MemPlace} (hT : P.underlying T = some (.array n U)) (hU : P.underlying U = some (.int k)) (hc : P.cellsOf U = 1)
    (h : DataW.trod enc P W b0 sp held f T cs = some (.agg (ds.map fun x => .lit (.int k x)), p)) : ∀ (i : Nat) (x : Int), ds[i]? = some x → cs[i]? = some (Value.int k x) := by
  obtain ⟨xs, m, _, hx, _, hn, hel⟩ := DataW.trod_array hT h
  have hx1 : ds.map (fun x => (.lit (.int k x) : DataW H)) = xs.map (·.1) := by
    have := congrArg Prod.fst hx
    simpa using this
  intro i x hi
  have h1 : (xs.map (·.1))[i]? = some (DataW.lit (Lit.int k x)) := by rw [← hx1]; simp [hi]
  rw [List.getElem?_map] at h1
  cases hy : xs[i]? with
  | none => simp [hy] at h1
  | some y =>
    rw [hy] at h1
    have hil : i < xs.length := (List.getElem?_eq_some_iff.1 hy).1
    have h2 := hel i (by omega)
    rw [hy, hc] at h2
    obtain ⟨z, e1, e2, _⟩ := DataW.trod_int hU h2
    have h3 : y.1 = DataW.lit (Lit.int k x) := Option.some.inj h1
    rw [e2] at h3
    have hz : z = x := by simpa using h3
    subst hz
    have : ((List.drop (i * 1) cs).take 1)[0]? = some (Value.int k z) := by rw [e1]; rfl
    simpa [List.getElem?_take, List.getElem?_drop] using this
theorem arr_arr {f T E n m : Nat} {cs : List Value} {ds : List (DataW H)} {p : List MemPlace} (hT : P.underlying T = some (.array n E)) (hc : P.cellsOf E = m)
    (h : DataW.trod enc P W b0 sp held f T cs = some (.agg ds, p)) : ∀ i d, ds[i]? = some d → ∃ f' p', DataW.trod enc P W b0 sp held f' E ((cs.drop (i * m)).take m) = some (d, p') := by
  obtain ⟨xs, m', _, hx, _, hn, hel⟩ := DataW.trod_array hT h
  have hx1 : ds = xs.map (·.1) := by
    have := congrArg Prod.fst hx
    simpa using this
  intro i d hi
  rw [hx1, List.getElem?_map] at hi
  cases hy : xs[i]? with
  | none => simp [hy] at hi
  | some y =>
    rw [hy] at hi
    have hil : i < xs.length := (List.getElem?_eq_some_iff.1 hy).1
    have h2 := hel i (by omega)
    rw [hy, hc] at h2
    exact ⟨m', y.2, by rw [h2, ← Option.some.inj hi]⟩
theorem iface_cell {f T : Nat} {ms : Array (String × TypeId)} {cs : List Value} {s : String} {d : DataW H} {p : List MemPlace} (hT : P.underlying T = some (.interface ms))
    (h : DataW.trod enc P W b0 sp held f T cs = some (.iface s d, p)) : ∃ u x, cs = [.iface u x] := by
  cases f with
  | zero => simp [DataW.trod] at h
  | succ m =>
    unfold DataW.trod at h
    rw [hT] at h
    split at h <;> simp_all
end
theorem raw_lms (x : Nat) : ∀ j : Nat, (rawC x)[j]? = ((lms x)[j]?).map fun y : Nat => Value.int .u64 ((y : Nat) : Int) := fun j => by
  match j with
  | 0 => rfl
  | 1 => rfl
  | j + 2 => simp [rawC, lms]
/-- A table of elements of a package variable. -/
theorem raw_tab {W : World} {g T m f : Nat} {nm : String} {l : List Nat} {cs : Array Value} {p : List MemPlace} (hT : Tryd.prog.underlying T = some (.array m 81)) (hc : Tryd.prog.cellsOf 81 = 2)
    (hg : Tryd.prog.globalNamed nm = some g) (hv : W.var? Tryd.prog nm = some cs) (hd : DataW.trod (fun _ => ()) Tryd.prog W 0 (fun _ => true) false f T cs.toList = some (.agg (l.map fun x => .agg ((lms x).map fun y : Nat => .lit (.int .u64 ((y : Nat) : Int)))), p)) :
    ∀ i, i < l.length → RawAt W g (i * 2) (l.getD i 0) := fun i hi j v hj => by
  have e0 : l[i]? = some (l.getD i 0) := by simp [List.getD, hi]
  obtain ⟨f', p', h1⟩ := arr_arr hT hc hd i (.agg ((lms (l.getD i 0)).map fun y : Nat => .lit (.int .u64 ((y : Nat) : Int)))) (by rw [List.getElem?_map, e0]; rfl)
  rw [raw_lms] at hj
  cases hy : (lms (l.getD i 0))[j]? with
  | none => rw [hy] at hj; cases hj
  | some y =>
    rw [hy] at hj
    obtain rfl := Option.some.inj hj
    have h2 := arr_ints (p := p') (ds := (lms (l.getD i 0)).map fun y : Nat => ((y : Nat) : Int)) Tryd.underlying81 Tryd.underlying23 cU64 (by rw [h1]; simp [List.map_map, Function.comp_def]) j (y : Int) (by rw [List.getElem?_map, hy]; rfl)
    have hj2 : j < 2 := (List.getElem?_eq_some_iff.1 hy).1
    rw [List.getElem?_take, if_pos hj2, List.getElem?_drop] at h2
    rw [World.var?_cell hg hv (i * 2 + j)]
    simpa using h2
/-- One element of a package variable. -/
theorem raw_one {W : World} {g f : Nat} {nm : String} {x : Nat} {cs : Array Value} {p : List MemPlace} (hg : Tryd.prog.globalNamed nm = some g) (hv : W.var? Tryd.prog nm = some cs)
    (hd : DataW.trod (fun _ => ()) Tryd.prog W 0 (fun _ => true) false f 81 cs.toList = some (.agg ((lms x).map fun y : Nat => .lit (.int .u64 ((y : Nat) : Int))), p)) : RawAt W g 0 x := fun j v hj => by
  rw [raw_lms] at hj
  cases hy : (lms x)[j]? with
  | none => rw [hy] at hj; cases hj
  | some y =>
    rw [hy] at hj
    obtain rfl := Option.some.inj hj
    have h2 := arr_ints (p := p) (ds := (lms x).map fun y : Nat => ((y : Nat) : Int)) Tryd.underlying81 Tryd.underlying23 cU64 (by rw [hd]; simp [List.map_map, Function.comp_def]) j (y : Int) (by rw [List.getElem?_map, hy]; rfl)
    rw [Nat.zero_add, World.var?_cell hg hv j]
    simpa using h2

theorem gvR : Tryd.prog.globalNamed "loop.example/pub-g03033/pub/circl/vdaf/fp128.rSquare" = some 8 := by kernel_rfl
theorem tvR : (Tryd.prog.globals[8]?).map (·.type) = some 81 := by kernel_rfl
theorem dR : Rows.laid_loop_example_pub_g03033_pub_circl_vdaf_fp128_rSquare = (.agg ((lms r2f).map fun y : Nat => .lit (.int .u64 ((y : Nat) : Int))) : DataW Unit) := by kernel_rfl
theorem gr_at {W : World} (h : ∃ g t cs f p, Tryd.prog.globalNamed "loop.example/pub-g03033/pub/circl/vdaf/fp128.rSquare" = some g ∧ (Tryd.prog.globals[g]?).map (·.type) = some t ∧ W.var? Tryd.prog "loop.example/pub-g03033/pub/circl/vdaf/fp128.rSquare" = some cs ∧ DataW.trod (fun _ => ()) Tryd.prog W 0 (fun _ => true) false f t cs.toList = some (Rows.laid_loop_example_pub_g03033_pub_circl_vdaf_fp128_rSquare, p)) : GR W := by
  obtain ⟨g, t, cs, f, p, h1, h2, h3, h4⟩ := h
  obtain rfl := Option.some.inj (gvR.symm.trans h1)
  obtain rfl := Option.some.inj (tvR.symm.trans h2)
  rw [dR] at h4
  exact raw_one gvR h3 h4

theorem gvH : Tryd.prog.globalNamed "loop.example/pub-g03033/pub/circl/vdaf/fp128.half" = some 6 := by kernel_rfl
theorem tvH : (Tryd.prog.globals[6]?).map (·.type) = some 81 := by kernel_rfl
/-- Half of one, as it is laid, and as a number. -/
def halfM : Nat := 170141183460469231731687303715884105728
def halfP : Nat := 170141183460469231473432886683950383105
theorem half_mont : mont halfP = halfM := by rw [mont_eq]; decide +kernel
theorem half_lt : halfP < pf := by decide +kernel
theorem half_two : halfP * 2 % pf = 1 := by decide +kernel
theorem dH : Rows.laid_loop_example_pub_g03033_pub_circl_vdaf_fp128_half = (.agg ((lms halfM).map fun y : Nat => .lit (.int .u64 ((y : Nat) : Int))) : DataW Unit) := by kernel_rfl
def HF (W : World) : Prop := RawAt W 6 0 halfM
theorem HF.sn {D : Nat → Bool} {w0 w : World} (h : HF w0) (hs : Sn D w0 w) (hd : D 6 = false) : HF w := RawAt.sn h hs hd
theorem HF.lt {w : World} (h : HF w) : 6 < w.heap.size := World.block_lt_of_cell? w ⟨6, 0 + 0, none⟩ (h 0 _ rfl)
theorem hf_at {W : World} (h : ∃ g t cs f p, Tryd.prog.globalNamed "loop.example/pub-g03033/pub/circl/vdaf/fp128.half" = some g ∧ (Tryd.prog.globals[g]?).map (·.type) = some t ∧ W.var? Tryd.prog "loop.example/pub-g03033/pub/circl/vdaf/fp128.half" = some cs ∧ DataW.trod (fun _ => ()) Tryd.prog W 0 (fun _ => true) false f t cs.toList = some (Rows.laid_loop_example_pub_g03033_pub_circl_vdaf_fp128_half, p)) : HF W := by
  obtain ⟨g, t, cs, f, p, h1, h2, h3, h4⟩ := h
  obtain rfl := Option.some.inj (gvH.symm.trans h1)
  obtain rfl := Option.some.inj (tvH.symm.trans h2)
  rw [dH] at h4
  exact raw_one gvH h3 h4

theorem gvT : Tryd.prog.globalNamed "loop.example/pub-g03033/pub/circl/vdaf/fp128.rootOfUnityTwoN" = some 1 := by kernel_rfl
theorem tvT : (Tryd.prog.globals[1]?).map (·.type) = some 114 := by kernel_rfl
def rtL : List Nat := [516508834063867445247, 340282366920938462430356939304033320962, 129526470195413442198896969089616959958, 169031622068548287099117778531474117974, 81612939378432101163303892927894236156, 122401220764524715189382260548353967708, 199453575871863981432000940507837456190, 272368408887745135168960576051472383806, 24863773656265022616993900367764287617, 257882853788779266319541142124730662203, 323732363244658673145040701829006542956, 57532865270871759635014308631881743007, 149571414409418047452773959687184934208, 177018931070866797456844925926211239962, 268896136799800963964749917185333891349, 244556960591856046954834420512544511831, 118945432085812380213390062516065622346, 202007153998709986841225284843501908420, 332677126194796691532164818746739771387, 258279638927684931537542082169183965856, 148221243758794364405224645520862378432, 31583105093038963715585714804173749508, 293555783970043152011264817603729152654, 75883280154240543085608194893530429344, 184377918938781791437285909395859739904, 172265016137866697414207055509907655890, 154349988217042789593848608583684528934, 138401759139209197646152037859716828518, 54904353990581585888422145248869924834, 85284914119369450588840407965313609549, 292728417563997304202230478999787622210, 29931574605515030391189388540123724347, 298002371237179458745155129272542660502, 140893700723416483193680518106599154119, 77686474740440952966912193783301066672, 104680511525342721248942905452619497362, 104341103241674157880079458915288511210, 334573380048109870670126086915310009869, 117738196227402968525175095932906110784, 57228802566877185671072460836905848959, 67812926678558492754387911052394972668, 152154319775986711288251851769966312265, 281274897238222918718330212811899841776, 21750813031770049920579566403089707084, 339373524139559845665561708602383333019, 128690231049897834086059186922660537877, 280883806867980058855781310729095783976, 214415129612201845345989107143746930661, 64342143567431551422253089349770401686, 2917674248575641205237436239557992312, 202480605997218824222518729174003294021, 194502970501757818570576803253116813767, 327106448936470838172773503057560524543, 101289953086228315427696243112163722584, 16819749283845499156187773636996716403, 307102580089689380473713409420347562112, 173954947414192705706243869173590329051, 318331860441361146088250613451595447936, 277869813079536731677220006627429439261, 140566730376140991336332462261166542429, 308352688587142858418332218637546083477, 129171107286231214729628078743973850028, 112359355033193810592675039191618359779, 34777660574820395795365228588893213890, 289386727234689322034980907929807770669, 41790394815811827226276250549374675422, 107630958476043550189608038630704257141]
def rtP : List Nat := [1, 340282366920938462946865773367900766208, 296799510782421792440573396836765619039, 139471514523600095951509360044160107293, 277977706631875512274059312402750455572, 164768177341742407652166710271521887468, 71091572554006798545592074489980172409, 188322392423650108177730013335772346355, 197141068896844615245736127921800600295, 209900187991866741754100435606543917556, 262214957784317516135383084956054824955, 327496357679086322773617020908952188186, 133072755800590304806537840801182217618, 168312455792500806162843739362957945840, 113927287885849408930564061574147684151, 335126421064327517058514051787995178667, 147080871988918913690578634374576834667, 299198373529429211116086663456353592640, 271340726413788793770043530061069124228, 57121312379300619600318677664786743754, 226945609434932365251557460011480688541, 21022521936390201372706724542698581485, 230098631070884707291510166521957912442, 228559068280161436879543619393492845001, 332064765402393997366770722859577891805, 117085996218356758227256787041360254830, 135965727464040418926996694396031446391, 340016569969094368294240872476617898097, 270548877918352914568302939620931546028, 298353500773512692450176587485452064553, 145432500667824378249016714272415453571, 240132284097975523489668647485403010041, 64696717124614176587478565245026814591, 274676736149104596651512253707399987304, 19174378191971045916276784955566357679, 200467131140562697033943509875939614498, 208247103343522621288279093603539219811, 287838268957986932976524821991315335278, 31769637856510632840609960425458956649, 156463924233492022818011865070294338019, 155922031875079272327617044971662535247, 159346507187555487195719333287403366737, 318535357410237596781192254130144348528, 289561285648662405709988593885012044911, 99666088690084148870055939366877902695, 103391040357211099386554923247963290919, 334148062884068942674517408093273723893, 74607240671693018256114645921460412444, 134362479177651918469895907702663350227, 11527933618270417271153319037870510680, 168592440810298607532676059676794073283, 215288127941631455376249369110897644368, 102054183934057294722319268856311633136, 330139941075877292379205440111229355003, 231903488175481704286424705201049120989, 15969955439487489491340182655538118918, 320700491280423486116039102908266308247, 165426264980336397945438772700940880811, 326319039648717633123606039734865546772, 103092366084974087736042506450776252795, 8113803720761984513834422645264943178, 193986265507002547199640545612671314457, 120623656016030334670045309349000121687, 100456552961230745129130100547471902317, 311886411077723284703901582682233664808, 86625320208583566086826203984317585024, 145091266659756586618791329697897684742]
def rt (i : Nat) : Nat := rtP.getD i 0
set_option maxRecDepth 100000 in
theorem rt_all : ∀ i, i < 67 → rt i * rf % pf = rtL.getD i 0 ∧ rt i < pf := by decide +kernel
theorem rt_mont {i : Nat} (h : i < 67) : mont (rt i) = rtL.getD i 0 := by rw [mont_eq]; exact (rt_all i h).1
theorem rt_lt {i : Nat} (h : i < 67) : rt i < pf := (rt_all i h).2
set_option maxRecDepth 100000 in
theorem dT : Rows.laid_loop_example_pub_g03033_pub_circl_vdaf_fp128_rootOfUnityTwoN = (.agg (rtL.map fun x => .agg ((lms x).map fun y : Nat => .lit (.int .u64 ((y : Nat) : Int)))) : DataW Unit) := by kernel_rfl
def RT (W : World) : Prop := ∀ i, i < 67 → RawAt W 1 (i * 2) (mont (rt i))
theorem RT.sn {D : Nat → Bool} {w0 w : World} (h : RT w0) (hs : Sn D w0 w) (hd : D 1 = false) : RT w := fun i hi => RawAt.sn (h i hi) hs hd
theorem RT.lt {w : World} (h : RT w) : 1 < w.heap.size := World.block_lt_of_cell? w ⟨1, 0 * 2 + 0, none⟩ (h 0 (by decide) 0 _ rfl)
theorem rt_at {W : World} (h : ∃ g t cs f p, Tryd.prog.globalNamed "loop.example/pub-g03033/pub/circl/vdaf/fp128.rootOfUnityTwoN" = some g ∧ (Tryd.prog.globals[g]?).map (·.type) = some t ∧ W.var? Tryd.prog "loop.example/pub-g03033/pub/circl/vdaf/fp128.rootOfUnityTwoN" = some cs ∧ DataW.trod (fun _ => ()) Tryd.prog W 0 (fun _ => true) false f t cs.toList = some (Rows.laid_loop_example_pub_g03033_pub_circl_vdaf_fp128_rootOfUnityTwoN, p)) : RT W := by
  obtain ⟨g, t, cs, f, p, h1, h2, h3, h4⟩ := h
  obtain rfl := Option.some.inj (gvT.symm.trans h1)
  obtain rfl := Option.some.inj (tvT.symm.trans h2)
  rw [dT] at h4
  intro i hi
  rw [rt_mont hi]
  exact raw_tab Tryd.underlying114 cFp gvT h3 h4 i hi

theorem gvI : Tryd.prog.globalNamed "loop.example/pub-g03033/pub/circl/vdaf/fp128.inverseInt" = some 4 := by kernel_rfl
theorem tvI : (Tryd.prog.globals[4]?).map (·.type) = some 122 := by kernel_rfl
def ivL : List Nat := [516508834063867445247, 170141183460469231731687303715884105728, 172169611354622481749, 85070591730234615865843651857942052864, 136112946768375385282048076159933795533, 170141183460469231559517692361261623979, 145835300108973627051015164881081391982, 42535295865117307932921825928971026432]
def ivP : List Nat := [1, 170141183460469231473432886683950383105, 226854911280625641964577182245267177473, 255211775190703847210149330025925574657, 68056473384187692589373154673580153242, 283568639100782052455721477806583971841, 194447066811964835969637584781657580691, 297747071055821155078507551696913170433]
def iv (i : Nat) : Nat := ivP.getD i 0
set_option maxRecDepth 100000 in
theorem iv_all : ∀ i, i < 8 → iv i * rf % pf = ivL.getD i 0 ∧ iv i < pf := by decide +kernel
theorem iv_mont {i : Nat} (h : i < 8) : mont (iv i) = ivL.getD i 0 := by rw [mont_eq]; exact (iv_all i h).1
theorem iv_lt {i : Nat} (h : i < 8) : iv i < pf := (iv_all i h).2
set_option maxRecDepth 100000 in
theorem dI : Rows.laid_loop_example_pub_g03033_pub_circl_vdaf_fp128_inverseInt = (.agg (ivL.map fun x => .agg ((lms x).map fun y : Nat => .lit (.int .u64 ((y : Nat) : Int)))) : DataW Unit) := by kernel_rfl
def IV (W : World) : Prop := ∀ i, i < 8 → RawAt W 4 (i * 2) (mont (iv i))
theorem IV.sn {D : Nat → Bool} {w0 w : World} (h : IV w0) (hs : Sn D w0 w) (hd : D 4 = false) : IV w := fun i hi => RawAt.sn (h i hi) hs hd
theorem IV.lt {w : World} (h : IV w) : 4 < w.heap.size := World.block_lt_of_cell? w ⟨4, 0 * 2 + 0, none⟩ (h 0 (by decide) 0 _ rfl)
theorem iv_at {W : World} (h : ∃ g t cs f p, Tryd.prog.globalNamed "loop.example/pub-g03033/pub/circl/vdaf/fp128.inverseInt" = some g ∧ (Tryd.prog.globals[g]?).map (·.type) = some t ∧ W.var? Tryd.prog "loop.example/pub-g03033/pub/circl/vdaf/fp128.inverseInt" = some cs ∧ DataW.trod (fun _ => ()) Tryd.prog W 0 (fun _ => true) false f t cs.toList = some (Rows.laid_loop_example_pub_g03033_pub_circl_vdaf_fp128_inverseInt, p)) : IV W := by
  obtain ⟨g, t, cs, f, p, h1, h2, h3, h4⟩ := h
  obtain rfl := Option.some.inj (gvI.symm.trans h1)
  obtain rfl := Option.some.inj (tvI.symm.trans h2)
  rw [dI] at h4
  intro i hi
  rw [iv_mont hi]
  exact raw_tab Tryd.underlying122 cFp gvI h3 h4 i hi

theorem gvD : Tryd.prog.globalNamed "math/bits.deBruijn64tab" = some 11 := by kernel_rfl
theorem tvD : (Tryd.prog.globals[11]?).map (·.type) = some 148 := by kernel_rfl
def dbL : List Nat := [0, 1, 56, 2, 57, 49, 28, 3, 61, 58, 42, 50, 38, 29, 17, 4, 62, 47, 59, 36, 45, 43, 51, 22, 53, 39, 33, 30, 24, 18, 12, 5, 63, 55, 48, 27, 60, 41, 37, 16, 46, 35, 44, 21, 52, 32, 23, 11, 54, 26, 40, 15, 34, 20, 31, 10, 25, 14, 19, 9, 13, 8, 7, 6]
theorem cU8 : Tryd.prog.cellsOf 5 = 1 := by kernel_rfl
theorem dD : Rows.laid_math_bits_deBruijn64tab = (.agg ((dbL.map fun x : Nat => ((x : Nat) : Int)).map fun y => .lit (.int .u8 y)) : DataW Unit) := by kernel_rfl
def DB (W : World) : Prop := ∀ i, i < 64 → W.cell? ⟨11, i, none⟩ = some (.int .u8 ((dbL.getD i 0 : Nat) : Int))
theorem DB.sn {D : Nat → Bool} {w0 w : World} (h : DB w0) (hs : Sn D w0 w) (hd : D 11 = false) : DB w := fun i hi => hs.cell (h i hi) hd
theorem db_at {W : World} (h : ∃ g t cs f p, Tryd.prog.globalNamed "math/bits.deBruijn64tab" = some g ∧ (Tryd.prog.globals[g]?).map (·.type) = some t ∧ W.var? Tryd.prog "math/bits.deBruijn64tab" = some cs ∧ DataW.trod (fun _ => ()) Tryd.prog W 0 (fun _ => true) false f t cs.toList = some (Rows.laid_math_bits_deBruijn64tab, p)) : DB W := by
  obtain ⟨g, t, cs, f, p, h1, h2, h3, h4⟩ := h
  obtain rfl := Option.some.inj (gvD.symm.trans h1)
  obtain rfl := Option.some.inj (tvD.symm.trans h2)
  rw [dD] at h4
  intro i hi
  have e0 : dbL[i]? = some (dbL.getD i 0) := by simp [List.getD, show i < dbL.length from hi]
  have h5 := arr_ints Tryd.underlying148 Tryd.underlying5 cU8 h4 i ((dbL.getD i 0 : Nat) : Int) (by rw [List.getElem?_map, e0]; rfl)
  rw [World.var?_cell gvD h3 i]
  simpa using h5

theorem gvE : Tryd.prog.globalNamed "loop.example/pub-g03033/pub/circl/vdaf/fp128.ErrFieldEltDecode" = some 5 := by kernel_rfl
theorem tvE : (Tryd.prog.globals[5]?).map (·.type) = some 91 := by kernel_rfl
/-- The variable holds an error. -/
def ERE (W : World) : Prop := ∃ u x, W.cell? ⟨5, 0, none⟩ = some (.iface u x)
theorem erE_at {W : World} (h : ∃ g t cs f p, Tryd.prog.globalNamed "loop.example/pub-g03033/pub/circl/vdaf/fp128.ErrFieldEltDecode" = some g ∧ (Tryd.prog.globals[g]?).map (·.type) = some t ∧ W.var? Tryd.prog "loop.example/pub-g03033/pub/circl/vdaf/fp128.ErrFieldEltDecode" = some cs ∧ DataW.trod (fun _ => ()) Tryd.prog W 0 (fun _ => true) false f t cs.toList = some (Rows.laid_loop_example_pub_g03033_pub_circl_vdaf_fp128_ErrFieldEltDecode, p)) : ERE W := by
  obtain ⟨g, t, cs, f, p, h1, h2, h3, h4⟩ := h
  obtain rfl := Option.some.inj (gvE.symm.trans h1)
  obtain rfl := Option.some.inj (tvE.symm.trans h2)
  unfold Rows.laid_loop_example_pub_g03033_pub_circl_vdaf_fp128_ErrFieldEltDecode at h4
  obtain ⟨u, x, e⟩ := iface_cell Tryd.underlying91 h4
  refine ⟨u, x, ?_⟩
  have := World.var?_cell gvE h3 0
  rw [this, ← Array.getElem?_toList, e]; rfl

theorem gvN : Tryd.prog.globalNamed "loop.example/pub-g03033/pub/circl/vdaf/fp128.ErrNumberTooLarge" = some 2 := by kernel_rfl
theorem tvN : (Tryd.prog.globals[2]?).map (·.type) = some 91 := by kernel_rfl
/-- The variable holds an error. -/
def ERN (W : World) : Prop := ∃ u x, W.cell? ⟨2, 0, none⟩ = some (.iface u x)
theorem erN_at {W : World} (h : ∃ g t cs f p, Tryd.prog.globalNamed "loop.example/pub-g03033/pub/circl/vdaf/fp128.ErrNumberTooLarge" = some g ∧ (Tryd.prog.globals[g]?).map (·.type) = some t ∧ W.var? Tryd.prog "loop.example/pub-g03033/pub/circl/vdaf/fp128.ErrNumberTooLarge" = some cs ∧ DataW.trod (fun _ => ()) Tryd.prog W 0 (fun _ => true) false f t cs.toList = some (Rows.laid_loop_example_pub_g03033_pub_circl_vdaf_fp128_ErrNumberTooLarge, p)) : ERN W := by
  obtain ⟨g, t, cs, f, p, h1, h2, h3, h4⟩ := h
  obtain rfl := Option.some.inj (gvN.symm.trans h1)
  obtain rfl := Option.some.inj (tvN.symm.trans h2)
  unfold Rows.laid_loop_example_pub_g03033_pub_circl_vdaf_fp128_ErrNumberTooLarge at h4
  obtain ⟨u, x, e⟩ := iface_cell Tryd.underlying91 h4
  refine ⟨u, x, ?_⟩
  have := World.var?_cell gvN h3 0
  rw [this, ← Array.getElem?_toList, e]; rfl
end Go.Proofs.YtgdfdkpkhjbibaaDoor
