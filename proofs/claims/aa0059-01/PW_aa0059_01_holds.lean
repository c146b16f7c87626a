import PyProof.Rows.All
import Wide.All
import OpenK.AllK
import Wide.FinOn
import Lean
import PySem.Challenge.RW_aa0059_01
open PySem PySem.W PyProof.Rows
set_option Elab.async false
set_option maxRecDepth 100000
set_option linter.unusedVariables false
namespace Mine
section
open PySem PySem.W PyProof.Rows
def z0 : Str := Str.ofString "z"
theorem z0_is : z0 = z0 := rfl
name_quick tw8075568018651887793 for z0 by z0_is
name_quick tw1574873078441994576 for z0 by z0_is
name_quick tw6733733256287894996 for z0 by z0_is
name_quick tw10167046862242354303 for z0 by z0_is
name_quick tw17099093224030675452 for z0 by z0_is
name_quick tw14979626087600564940 for z0 by z0_is
name_quick tw6634754526749712025 for z0 by z0_is
name_quick tw10253492065209306289 for z0 by z0_is
name_quick tw5381798951435451217 for z0 by z0_is
name_quick tw16909898463403110869 for z0 by z0_is
name_quick tw4278364036701150003 for z0 by z0_is
name_quick tw11520701649476022134 for z0 by z0_is
name_quick tw16397041985804989593 for z0 by z0_is
name_quick tw1377046205977697930 for z0 by z0_is
name_quick tw1355338860687761863 for z0 by z0_is
name_quick tw227664154600733314 for z0 by z0_is
name_quick tw701097294156878152 for z0 by z0_is
name_quick tw17068924515734577466 for z0 by z0_is
name_quick tw3123356604346172194 for z0 by z0_is
name_quick tw17336000867468585007 for z0 by z0_is
name_quick tw2143730078073651798 for z0 by z0_is
name_quick tw6988704321522420823 for z0 by z0_is
name_quick tw926213455627471399 for z0 by z0_is
name_quick tw4392076818467891588 for z0 by z0_is
name_quick tw7433093208181500128 for z0 by z0_is
name_quick tw788995980369251910 for z0 by z0_is
name_quick tw4407734736301137906 for z0 by z0_is
name_quick tw16643379632663270332 for z0 by z0_is
name_quick tw3856783459128436802 for z0 by z0_is
name_quick tw8119918657739134586 for z0 by z0_is
name_quick tw12172078356533094185 for z0 by z0_is
name_quick tw11939915149646268982 for z0 by z0_is
name_quick tw10073347824450446311 for z0 by z0_is
name_quick tw16804044748790271530 for z0 by z0_is
name_quick tw9285146279643344392 for z0 by z0_is
name_quick tw15919542637913265678 for z0 by z0_is
name_quick tw15560500314895047343 for z0 by z0_is
name_quick tw9951705424602377420 for z0 by z0_is
name_quick tw4636218855388986860 for z0 by z0_is
name_quick tw11625766737575182897 for z0 by z0_is
name_quick tw13640514254501968386 for z0 by z0_is
name_quick tw4444965560193506482 for z0 by z0_is
name_quick tw5189142188285759775 for z0 by z0_is
name_quick tw10996506086634736982 for z0 by z0_is
name_quick tw13317431791736044220 for z0 by z0_is
name_quick tw7035115661146626270 for z0 by z0_is
name_quick tw5396446701170858492 for z0 by z0_is
name_quick tw14376985748213822385 for z0 by z0_is
name_quick tw6711915476519705758 for z0 by z0_is
name_quick tw7299303143086499733 for z0 by z0_is
name_quick tw347637069881736656 for z0 by z0_is
name_quick tw6004533443673955352 for z0 by z0_is
name_quick tw912392155897948271 for z0 by z0_is
name_quick tw16548257151911338427 for z0 by z0_is
name_quick tw5978237884098788730 for z0 by z0_is
name_quick tw4775785305629353868 for z0 by z0_is
name_quick tw8727135674562949291 for z0 by z0_is
name_quick tw8400853705098224536 for z0 by z0_is
name_quick tw14553827428707814869 for z0 by z0_is
name_quick tw8032284361305108907 for z0 by z0_is
name_quick tw5591276700874282246 for z0 by z0_is
name_quick tw6550987210724342151 for z0 by z0_is
name_quick tw17846936440860909165 for z0 by z0_is
name_quick tw10876076194415870503 for z0 by z0_is
name_quick tw932993149863042379 for z0 by z0_is
name_quick tw7401281599722004195 for z0 by z0_is
name_quick tw4748654258956052638 for z0 by z0_is
name_quick tw43969757491396457 for z0 by z0_is
name_quick tw219737044198020058 for z0 by z0_is
name_quick tw11788150170368784547 for z0 by z0_is
name_quick tw17730428716208468724 for z0 by z0_is
name_quick tw2381599553089736043 for z0 by z0_is
name_quick tw3152983702415266003 for z0 by z0_is
name_quick tw10942035263794033107 for z0 by z0_is
name_quick tw2611137233208623240 for z0 by z0_is
name_quick tw12022285260146216970 for z0 by z0_is
name_quick tw12268644228514654432 for z0 by z0_is
name_quick tw5770868932273138760 for z0 by z0_is
name_quick tw16593013826814733010 for z0 by z0_is
name_quick tw14333388528381170442 for z0 by z0_is
name_quick tw8017206721242287953 for z0 by z0_is
name_quick tw8796240567053077481 for z0 by z0_is
name_quick tw4797165386629745026 for z0 by z0_is
name_quick tw6735346659252874535 for z0 by z0_is
name_quick tw11968802755003891477 for z0 by z0_is
name_quick tw17497748084772794779 for z0 by z0_is
name_quick tw9529234661008812162 for z0 by z0_is
name_quick tw9594665118957945026 for z0 by z0_is
name_quick tw8595292554425487202 for z0 by z0_is
name_quick tw17672482021469178181 for z0 by z0_is
name_quick tw5656341101305198845 for z0 by z0_is
name_quick tw14530364306720264245 for z0 by z0_is
name_quick tw6380047634161181297 for z0 by z0_is
name_quick tw15480198773659482676 for z0 by z0_is
name_quick tw958810671402257542 for z0 by z0_is
name_quick tw9948023125614773506 for z0 by z0_is
name_quick tw17000155066101142889 for z0 by z0_is
name_quick tw5732905514179830355 for z0 by z0_is
name_quick tw10470071008263537045 for z0 by z0_is
name_quick tw17069979004554194336 for z0 by z0_is
name_quick tw9051711117073984157 for z0 by z0_is
name_quick tw18056578402003937789 for z0 by z0_is
name_quick tw9908251947323293946 for z0 by z0_is
name_quick tw14311459727803291754 for z0 by z0_is
name_quick tw11013792430000457035 for z0 by z0_is
name_quick tw8147914164515108645 for z0 by z0_is
name_quick tw2283851925072248500 for z0 by z0_is
name_quick tw17274371674624000324 for z0 by z0_is
name_quick tw11863081143760314161 for z0 by z0_is
name_quick tw16531745337717519161 for z0 by z0_is
name_quick tw3764465048917985505 for z0 by z0_is
name_quick tw16947794391021106201 for z0 by z0_is
name_quick tw13254397897704925713 for z0 by z0_is
name_quick tw17863021456227041891 for z0 by z0_is
name_quick tw7892128664451923741 for z0 by z0_is
name_quick tw8860024209350480642 for z0 by z0_is
name_quick tw3264259588550801142 for z0 by z0_is
name_quick tw17730448691065144110 for z0 by z0_is
name_quick tw7232422423428716515 for z0 by z0_is
name_quick tw6195963142993719982 for z0 by z0_is
name_quick tw11306939235166856333 for z0 by z0_is
name_quick tw10706342367453228570 for z0 by z0_is
name_quick tw4549333791460862111 for z0 by z0_is
name_quick tw1706496860858754268 for z0 by z0_is
name_quick tw3766158894648301139 for z0 by z0_is
name_quick tw4552823106982906706 for z0 by z0_is
name_quick tw11543547407058413889 for z0 by z0_is
name_quick tw18101931140130867144 for z0 by z0_is
name_quick tw20320146153715357 for z0 by z0_is
name_quick tw4319705520415482375 for z0 by z0_is
name_quick tw16145008321745377990 for z0 by z0_is
name_quick tw7323676302269181137 for z0 by z0_is
name_quick tw6817277305950994716 for z0 by z0_is
name_quick tw14073706353221006472 for z0 by z0_is
name_quick tw2719445374943340272 for z0 by z0_is
name_quick tw1156252341971683116 for z0 by z0_is
name_quick tw4302124980754421698 for z0 by z0_is
name_quick tw5357591511691535388 for z0 by z0_is
name_quick tw15742981410569661332 for z0 by z0_is
name_quick tw13180171748994924942 for z0 by z0_is
name_quick tw7721631327575515661 for z0 by z0_is
name_quick tw18340240734955500558 for z0 by z0_is
name_quick tw15319007112934793488 for z0 by z0_is
name_quick tw4075660801711882420 for z0 by z0_is
name_quick tw151948405760981731 for z0 by z0_is
name_quick tw10421914624479474965 for z0 by z0_is
name_quick tw11333186260410459676 for z0 by z0_is
name_quick tw14023627001141898710 for z0 by z0_is
name_quick tw2460228577881660442 for z0 by z0_is
name_quick tw8708707556590381134 for z0 by z0_is
name_quick tw15278061642289888581 for z0 by z0_is
name_quick tw1258717718454355964 for z0 by z0_is
name_quick tw1617757218408452269 for z0 by z0_is
name_quick tw18350330562280901221 for z0 by z0_is
name_quick tw14821650378409806113 for z0 by z0_is
name_quick tw5111356299099525756 for z0 by z0_is
name_quick tw7496433998918960881 for z0 by z0_is
name_quick tw16296994325663420285 for z0 by z0_is
name_quick tw1702518465993881591 for z0 by z0_is
name_quick tw900395245841561262 for z0 by z0_is
name_quick tw1620339239838986703 for z0 by z0_is
name_quick tw951843321253372498 for z0 by z0_is
name_quick tw11445135464325071761 for z0 by z0_is
name_quick tw12233582284571471492 for z0 by z0_is
name_quick tw4090926877573551719 for z0 by z0_is
name_quick tw3105397867545767578 for z0 by z0_is
name_quick tw16176465441171805009 for z0 by z0_is
name_quick tw470574548607681690 for z0 by z0_is
name_quick tw2354135333415324597 for z0 by z0_is
name_quick tw12392613427281201732 for z0 by z0_is
name_quick tw1218959903707654005 for z0 by z0_is
name_quick tw12832477231654346042 for z0 by z0_is
name_quick tw11186114360453789277 for z0 by z0_is
name_quick tw7269565832213808900 for z0 by z0_is
name_quick tw13789449189825218787 for z0 by z0_is
name_quick tw6792406925840432001 for z0 by z0_is
name_quick tw9315938663221665524 for z0 by z0_is
name_quick tw10010936943081839664 for z0 by z0_is
name_quick tw11853533878840232495 for z0 by z0_is
name_quick tw9763268239775435451 for z0 by z0_is
name_quick tw15894407043143930727 for z0 by z0_is
name_quick tw7275051467321613617 for z0 by z0_is
name_quick tw9011979029575296479 for z0 by z0_is
name_quick tw16752143609539240740 for z0 by z0_is
name_quick tw18345786424863182364 for z0 by z0_is
name_quick tw7299951869573292228 for z0 by z0_is
name_quick tw15663404670287596823 for z0 by z0_is
name_quick tw11636919720809706868 for z0 by z0_is
name_quick tw15766043655864335149 for z0 by z0_is
name_quick tw10948738476641704880 for z0 by z0_is
name_quick tw14108194823987119177 for z0 by z0_is
name_quick tw6363645014702824404 for z0 by z0_is
name_quick tw4292500188555128830 for z0 by z0_is
name_quick tw18081866645286916028 for z0 by z0_is
name_quick tw9931943479562821362 for z0 by z0_is
name_quick tw117213463901210413 for z0 by z0_is
name_quick tw10887116778572429059 for z0 by z0_is
name_quick tw14834023430324568649 for z0 by z0_is
name_quick tw18211773271919218964 for z0 by z0_is
name_quick tw6929956602132211858 for z0 by z0_is
name_quick tw13145125596335152023 for z0 by z0_is
name_quick tw2905824091091238844 for z0 by z0_is
name_quick tw1537898542681612871 for z0 by z0_is
name_quick tw11462045893675790159 for z0 by z0_is
name_quick tw13036272033356848781 for z0 by z0_is
name_quick tw13335737130258781183 for z0 by z0_is
name_quick tw4011157648589011858 for z0 by z0_is
name_quick tw14714103240675001986 for z0 by z0_is
name_quick tw10317580896714288900 for z0 by z0_is
name_quick tw17964007177503468958 for z0 by z0_is
name_quick tw3976722010076183465 for z0 by z0_is
name_quick tw6679490504615227074 for z0 by z0_is
name_quick tw3880421473898291048 for z0 by z0_is
name_quick tw10424941004445345732 for z0 by z0_is
name_quick tw17476080006546285661 for z0 by z0_is
name_quick tw13893545014079280070 for z0 by z0_is
name_quick tw3891137856419664920 for z0 by z0_is
name_quick tw3282434896037501709 for z0 by z0_is
name_quick tw3698559305507148144 for z0 by z0_is
name_quick tw3619232141914619222 for z0 by z0_is
name_quick tw7397068168572129948 for z0 by z0_is
name_quick tw16741492637210864865 for z0 by z0_is
name_quick tw14386061602966655976 for z0 by z0_is
set_option maxRecDepth 100000 in
set_option maxHeartbeats 8000000 in
open_top hd for PySem.Challenge.rw_aa0059_01
end

section
open PySem PySem.W PySem.Calls PyProof.Rows

noncomputable abbrev KF := hd.heap_39
abbrev PW := PySem.Challenge.pw_aa0059_01
abbrev Lz : List Str := [Str.ofString "filterfalse", Str.ofString "_twin_re_1", Str.ofString "_special_chars_map", Str.ofString "_NodeInfo"]

/-- addresses below `n` hold what stood before the law was called -/
class Lo where
  n : Nat
variable [Lo]
omit [Lo] in
theorem nn {h : Heap} {a b : Addr} {o : Obj} (ha : h.get? a = none) (hb : h.get? b = some o) : b ≠ a := fun q => by rw [q, ha] at hb; cases hb
omit [Lo] in
theorem kc {o : Obj} {a b : String} (c : o.cls = .type a) (h : a ≠ b := by decide) : o.cls ≠ .type b := fun q => by rw [c] at q; injection q with q; exact h q
omit [Lo] in
theorem pne {h : Heap} {a b : Addr} {vs : Array Value} (p : h.PlainList a vs) (n : h.get? b = none) : a ≠ b := let ⟨_, e⟩ := p; nn n e
/-- what may become of an object's slots: they change in young objects alone -/
def Sl (b : Addr) (o : Obj) : Type := { sl : Array (Option Value) // b < Lo.n → { o with slots := sl } = o }
/-- what is kept by every step: all objects but frames as they were, frames up to their slots -/
structure Kp (h h' : Heap) : Prop where
  off : ∀ b o, h.get? b = some o → o.cls ≠ .type "frame" → h'.get? b = some o
  on : ∀ b o, h.get? b = some o → ∃ sl : Sl b o, h'.get? b = some { o with slots := sl.1 }

omit [Lo] in
/-- what is kept by stores into names as well: neither frames nor cells -/
def Ko (h h' : Heap) : Prop := ∀ b o, h.get? b = some o → o.cls ≠ .type "frame" → o.cls ≠ .type "cell" → h'.get? b = some o

theorem Kp.refl (h : Heap) : Kp h h := ⟨fun _ _ e _ => e, fun _ o e => ⟨⟨o.slots, fun _ => rfl⟩, e⟩⟩
theorem Kp.trans {a b c : Heap} (x : Kp a b) (y : Kp b c) : Kp a c :=
  ⟨fun d o e n => y.off d o (x.off d o e n) n, fun d o e => by
    obtain ⟨sl, e1⟩ := x.on d o e
    obtain ⟨sl', e2⟩ := y.on d _ e1
    exact ⟨⟨sl'.1, fun q => (sl'.2 q).trans (sl.2 q)⟩, e2⟩⟩
theorem Kp.of {h h' : Heap} (k : ∀ b o, h.get? b = some o → h'.get? b = some o) : Kp h h' :=
  ⟨fun b o e _ => k b o e, fun b o e => ⟨⟨o.slots, fun _ => rfl⟩, k b o e⟩⟩
theorem Kp.lo {h h' : Heap} (k : Kp h h') {b : Addr} {o : Obj} (e : h.get? b = some o) (q : b < Lo.n) : h'.get? b = some o := by
  obtain ⟨sl, e'⟩ := k.on b o e
  rw [e', sl.2 q]
theorem Kp.push (h : Heap) (o : Obj) : Kp h (h.push o) := Kp.of fun _ _ e => Heap.get?_push_of_some o e
theorem Kp.ko {h h' : Heap} (k : Kp h h') : Ko h h' := fun b o e n _ => k.off b o e n
omit [Lo] in
theorem Ko.refl (h : Heap) : Ko h h := fun _ _ e _ _ => e
omit [Lo] in
theorem Ko.trans {a b c : Heap} (x : Ko a b) (y : Ko b c) : Ko a c := fun d o e n m => y d o (x d o e n m) n m
theorem Kp.dat {h h' : Heap} (k : Kp h h') {b : Addr} {o : Obj} (e : h.get? b = some o) : ∃ o', h'.get? b = some o' ∧ o'.data = o.data ∧ o'.cls = o.cls := by
  obtain ⟨sl, e'⟩ := k.on b o e
  exact ⟨_, e', rfl, rfl⟩
theorem Kp.none {h h' : Heap} (k : Kp h h') {b : Addr} (e : h'.get? b = none) : h.get? b = none := by
  cases q : h.get? b with
  | none => rfl
  | some o => obtain ⟨sl, e'⟩ := k.on b o q; rw [e'] at e; cases e
theorem ns_kp {h h' : Heap} {a m} (n : h.Ns a m) (k : Kp h h') : h'.Ns a m := by
  obtain ⟨o, es, ep, e, d, r⟩ := n
  obtain ⟨o', e', d', _⟩ := k.dat e
  exact ⟨o', es, ep, e', d'.trans d, r⟩
theorem cell_kp {h h' : Heap} {c : Addr} {v : Option Value} (n : h.IsCell c v) (k : Kp h h') : h'.IsCell c v := by
  obtain ⟨o, e, d⟩ := n
  obtain ⟨o', e', d', _⟩ := k.dat e
  exact ⟨o', e', d'.trans d⟩
omit [Lo] in
theorem size_none (h : Heap) : h.get? h.objs.size = none := by
  cases q : h.get? h.objs.size with
  | none => rfl
  | some o => exact absurd (Heap.lt_size q) (Nat.lt_irrefl _)
omit [Lo] in
theorem ge_none {h : Heap} {a : Addr} (g : h.objs.size ≤ a) : h.get? a = none := by
  cases q : h.get? a with
  | none => rfl
  | some o => exact absurd (Heap.lt_size q) (Nat.not_lt.mpr g)

omit [Lo] in
/-- the names of a block -/
structure Ev (env : Env) (m cm : Str → Option Value) (h : Heap) : Prop where
  ns : h.Ns env.locals m
  cell : ∀ n c, env.cells.lookup n = some c → h.IsCell c (cm n)
theorem Ev.kp {env : Env} {m cm} {h h' : Heap} (x : Ev env m cm h) (k : Kp h h') : Ev env m cm h' :=
  ⟨ns_kp x.ns k, fun n c e => cell_kp (x.cell n c e) k⟩

/-- the top -/
structure Cx (w : World) (h : Heap) : Prop where
  k : (KF w.params).In h
  g : ∃ mg, h.Ns mainGlobals mg
  b : ∃ mb, h.Ns builtinsNs mb ∧ ∀ x : Str, x ≠ "__name__" → mb x = bootBuiltins x
  l : h.NoLimit
  top : ∃ b o, b ≠ 101 ∧ Lo.n ≤ b + 1 ∧ h.get? b = some o
  bm : ∃ mg bm ob, h.Ns mainGlobals mg ∧ mg "__builtins__" = some (.ref bm) ∧ bm ≠ builtinsNs ∧ bm ≠ mainGlobals ∧ h.get? bm = some ob ∧ ob.cls = .type "module" ∧ ob.dict = some builtinsNs ∧ ob.data = .plain
theorem nolimit_kp {h h' : Heap} (x : h.NoLimit) (k : Kp h h') : h'.NoLimit := let ⟨mc, a, b⟩ := x; ⟨mc, ns_kp a k, b⟩

/-- the stack: room and frames -/
def FrD (h : Heap) : List Env → Prop
  | [] => True
  | env :: r => env.scope.kind = .function ∧ (∃ L o es n, env.frame = some L ∧ h.get? L = some o ∧ o.cls = .type "frame" ∧ o.data = .dict es n ∧ Lo.n ≤ L) ∧ FrD h r
theorem FrD.kp {h h' : Heap} (k : Kp h h') : ∀ {l : List Env}, FrD h l → FrD h' l
  | [], _ => trivial
  | _ :: _, ⟨a, ⟨L, o, es, n, e1, e2, e3, e4⟩, r⟩ => by
    obtain ⟨o', q1, q2, q3⟩ := k.dat e2
    exact ⟨a, ⟨L, o', es, n, e1, q1, q3.trans e3, q2.trans e4.1, e4.2⟩, FrD.kp k r⟩
structure Rm (A : Around) (d : Nat) (h : Heap) : Prop where
  dep : A.depth + d < recursionLimit
  un : A.units + 40 * d < cLine
  hd : A.handled = none
  fr : ∃ outer, A.frames = some outer ∧ FrD h outer
theorem Rm.kp {A : Around} {d : Nat} {h h' : Heap} (x : Rm A d h) (k : Kp h h') : Rm A d h' :=
  ⟨x.dep, x.un, x.hd, let ⟨o, e, f⟩ := x.fr; ⟨o, e, f.kp k⟩⟩
theorem Rm.mono {A : Around} {d e : Nat} {h : Heap} (x : Rm A d h) (q : e ≤ d) : Rm A e h :=
  ⟨by have := x.dep; (first | lia | omega), by have := x.un; (first | lia | omega), x.hd, x.fr⟩
theorem Rm.in1 {A : Around} {d : Nat} {h : Heap} (x : Rm A (d + 1) h) : Rm A.in1 d h :=
  ⟨by have := x.dep; show A.depth + d < _; (first | lia | omega), by have := x.un; show A.units + 1 + 40 * d < _; (first | lia | omega), x.hd, x.fr⟩
theorem Rm.room {A : Around} {d : Nat} {h : Heap} (x : Rm A d h) : A.depth < recursionLimit := by have := x.dep; (first | lia | omega)
theorem Rm.units {A : Around} {d : Nat} {h : Heap} (x : Rm A d h) : A.units < cLine := by have := x.un; (first | lia | omega)
theorem Rm.deeper {A : Around} {d : Nat} {h : Heap} {env : Env} (x : Rm A (d + 1) h) (hk : env.scope.kind = .function)
    (hf : ∃ L o es n, env.frame = some L ∧ h.get? L = some o ∧ o.cls = .type "frame" ∧ o.data = .dict es n ∧ Lo.n ≤ L) : Rm (A.deeper env) d h :=
  ⟨by have := x.dep; show A.depth + 1 + d < _; (first | lia | omega), by have := x.un; show A.units + 3 + 40 * d < _; (first | lia | omega), x.hd, by
    obtain ⟨o, e, f⟩ := x.fr
    exact ⟨env :: o, by show A.frames.map _ = _; rw [e]; rfl, hk, hf, f⟩⟩

section
variable {w : World} {A : Around} {E : Value → Shared → Prop} {s : Shared} {env : Env} {m cm : Str → Option Value}

omit [Lo] in
theorem nm_loc {x : Str} {pos : Pos} {v : Value} {Q : Value → Shared → Prop} (X : Ev env m cm s.heap) (hv : m x = some v) (h : Q v s)
    (hk : env.scope.kind = .function := by rfl) (hl : env.kindOf x = some .local := by rfl) (hd : (x == ("__debug__" : Str)) = false := by rfl) :
    wpAny (model PW w) A (eval (.Name x pos) env) Q E s := wpAny_Name (wpAny_loadName_local hk hl X.ns hv h) hd
omit [Lo] in
theorem nm_cell {x : Str} {pos : Pos} {v : Value} {Q : Value → Shared → Prop} (X : Ev env m cm s.heap) (hv : cm x = some v) (h : Q v s)
    (hk : env.scope.kind = .function := by rfl) (hl : env.kindOf x = some .cell := by rfl) (hc : ∃ c, env.cells.lookup x = some c := by exact ⟨_, rfl⟩) (hd : (x == ("__debug__" : Str)) = false := by rfl) :
    wpAny (model PW w) A (eval (.Name x pos) env) Q E s := by
  obtain ⟨c, hc⟩ := hc
  exact wpAny_Name (wpAny_loadName_cell hk hl hc (hv ▸ X.cell x c hc) h) hd
omit [Lo] in
theorem nm_free {x : Str} {pos : Pos} {v : Value} {Q : Value → Shared → Prop} (X : Ev env m cm s.heap) (hv : cm x = some v) (h : Q v s)
    (hk : env.scope.kind = .function := by rfl) (hl : env.kindOf x = some .free := by rfl) (hc : ∃ c, env.cells.lookup x = some c := by exact ⟨_, rfl⟩) (hd : (x == ("__debug__" : Str)) = false := by rfl) (hn : (x == ("__classdict__" : Str)) = false := by rfl) :
    wpAny (model PW w) A (eval (.Name x pos) env) Q E s := by
  obtain ⟨c, hc⟩ := hc
  exact wpAny_Name (wpAny_loadName_free hk hl hc (hv ▸ X.cell x c hc) h hn) hd
theorem nm_glob {x : Str} {pos : Pos} {v : Value} {Q : Value → Shared → Prop} (C : Cx w s.heap) (e : nsIn (KF w.params) mainGlobals x = some (some v)) (h : Q v s)
    (hk : env.scope.kind = .function := by rfl) (hl : env.kindOf x = some .globalImplicit := by rfl) (hg : env.globals = mainGlobals := by rfl) (hd : (x == ("__debug__" : Str)) = false := by rfl) :
    wpAny (model PW w) A (eval (.Name x pos) env) Q E s := by
  obtain ⟨mg, G⟩ := C.g
  exact Name_function_global hk hl (loadGlobal_global (hg ▸ G) (mg_of C.k G e) h) hd
theorem nm_blt {x : Str} {pos : Pos} {v : Value} {Q : Value → Shared → Prop} (C : Cx w s.heap) (e : nsIn (KF w.params) mainGlobals x = some none) (hv : bootBuiltins x = some v) (h : Q v s)
    (hk : env.scope.kind = .function := by rfl) (hl : env.kindOf x = some .globalImplicit := by rfl) (hg : env.globals = mainGlobals := by rfl) (hb : env.builtins = builtinsNs := by rfl) (hd : (x == ("__debug__" : Str)) = false := by rfl)
    (hn : x ≠ "__name__" := by decide) :
    wpAny (model PW w) A (eval (.Name x pos) env) Q E s := by
  obtain ⟨mg, G⟩ := C.g
  obtain ⟨mb, B, q⟩ := C.b
  exact Name_function_global hk hl (loadGlobal_builtin (hg ▸ G) (mg_none_of C.k G e) (hb ▸ B) ((q x hn).trans hv) h) hd
end
theorem Cx.kp {w : World} {h h' : Heap} (x : Cx w h) (k : Kp h h') (hf : ∀ a o, (KF w.params).lookup a = some o → o.cls ≠ .type "frame") : Cx w h' :=
  ⟨fun a o e => k.off a o (x.k a o e) (hf a o e), let ⟨mg, g⟩ := x.g; ⟨mg, ns_kp g k⟩, let ⟨mb, b, q⟩ := x.b; ⟨mb, ns_kp b k, q⟩, nolimit_kp x.l k, (let ⟨b, o, q', q, e⟩ := x.top; let ⟨o', e', _⟩ := k.dat e; ⟨b, o', q', q, e'⟩), let ⟨mg, bm, ob, a1, a2, a3, a3', a4, a5, r⟩ := x.bm; ⟨mg, bm, ob, ns_kp a1 k, a2, a3, a3', k.off _ _ a4 (by rw [a5]; decide), a5, r⟩⟩
omit [Lo] in
theorem kf_nf (w : World) : ∀ a o, (KF w.params).lookup a = some o → o.cls ≠ .type "frame" := by
  have q : (KF w.params).all (fun p => !(p.2.cls == .type "frame")) = true := by rfl
  intro a o e hc
  have hm : ∀ {l : List (Addr × Obj)}, l.lookup a = some o → (a, o) ∈ l := by
    intro l
    induction l with
    | nil => intro e; cases e
    | cons p r ih =>
      obtain ⟨b, x⟩ := p
      intro e
      rw [List.lookup_cons] at e
      split at e
      · rename_i q; cases e; rw [beq_iff_eq.mp q]; exact .head _
      · exact .tail _ (ih e)
  have := List.all_eq_true.mp q _ (hm e)
  simp [hc] at this
theorem Cx.sz {w : World} {h : Heap} (x : Cx w h) : Lo.n ≤ h.objs.size := let ⟨_, _, _, q, e⟩ := x.top; Nat.le_trans q (Heap.lt_size e)
theorem Cx.up {w : World} {h h' : Heap} (x : Cx w h) (k : Kp h h') : Cx w h' := x.kp k (kf_nf w)
end

section
open PySem PySem.W PySem.Calls PyProof.Rows
variable [Lo]

omit [Lo] in
theorem putName_cls (name : Str) (hh : Int) (key v : Value) (o : Obj) : (Obj.putName name hh key v o).cls = o.cls := by
  rw [Obj.putName_eq]
  obtain ⟨c, d, dt, sl⟩ := o
  cases dt <;> try rfl
  unfold Obj.putNameByArray
  dsimp only
  split <;> rfl

section
variable {M : Model} {A : Around} {E : Value → Shared → Prop} {s : Shared}
omit [Lo] in
theorem st_ns {a : Addr} {m : Str → Option Value} {name : Str} {v : Value} {Q : Unit → Shared → Prop} (hn : s.heap.Ns a m)
    (hQ : ∀ h', h'.Ns a (fun x => if x = name then some v else m x) → Heap.SameBut a s.heap h' →
      (∀ o, s.heap.get? a = some o → ∃ o', h'.get? a = some o' ∧ o'.cls = o.cls) → Q () { s with heap := h', toks := s.toks + 1 }) :
    wpAny M A (nsSet a name v) Q E s := by
  intro Γ p hΓ
  have z := Sem.wp_nsSet M Γ (fun e _ s' => E e s') p s hn name v (fun _ _ s' => s'.heap.Ns a (fun x => if x = name then some v else m x) ∧ Heap.SameBut a s.heap s'.heap) (fun h' a1 a2 => ⟨a1, a2⟩)
  obtain ⟨o, es, ep, ho, hd, hk, hm⟩ := hn
  have hany : es.any (·.refKey) = false := by
    rw [Array.any_eq_false']; intro e he; obtain ⟨n, t, h⟩ := hk e he; simp [DictEntry.refKey, h]
  simp only [nsSet, strHash, Sem.wp_bind', Sem.wp_cmd_ask, Sem.wp_pure', Sem.wp_cmd_mkText] at z ⊢
  rw [Sem.wp_loadPart_of M Γ _ p { s with toks := s.toks + 1 } (o := o) _ ho] at z ⊢
  simp only [hd, aRefKeyMayBeTheName_eq, aRefKeyMayBeTheNameByArray, hany, Bool.and_false, Bool.false_eq_true, if_false, Sem.wp_cmd_updatePart] at z ⊢
  refine ⟨z.1, hQ _ z.2.1 z.2.2 fun o' e => ?_⟩
  rw [ho] at e; cases e
  obtain ⟨o2, e2, _⟩ := z.2.1
  have := e2
  refine ⟨_, Heap.get?_update_self _ ho ?_, putName_cls _ _ _ _ _⟩
  rw [Obj.putName_eq]
  obtain ⟨c, d, dt, sl⟩ := o
  subst hd
  unfold Obj.putNameByArray
  dsimp only
  split <;> rfl
end

/-- a def's block at work: its names, and all that stood when it began -/
structure Bd (h₀ : Heap) (env : Env) (m cm : Str → Option Value) (h : Heap) : Prop where
  ev : Ev env m cm h
  fc : ∃ o, h.get? env.locals = some o ∧ o.cls = .type "frame"
  apart : env.cells.Pairwise fun x y => x.2 ≠ y.2
  cc : ∀ n c, (n, c) ∈ env.cells → ∃ o, h.get? c = some o ∧ o.cls = .type "cell"
  keep : Kp h₀ h
  nl : h₀.get? env.locals = none
  nc : ∀ n c, (n, c) ∈ env.cells → h₀.get? c = none
  lo : Lo.n ≤ env.locals
theorem Bd.kp {h₀ : Heap} {env : Env} {m cm} {h h' : Heap} (x : Bd h₀ env m cm h) (k : Kp h h') : Bd h₀ env m cm h' :=
  ⟨x.ev.kp k, let ⟨_, e, c⟩ := x.fc; let ⟨o', e', _, c'⟩ := k.dat e; ⟨o', e', c'.trans c⟩, x.apart,
    fun n c hc => let ⟨_, e, q⟩ := x.cc n c hc; let ⟨o', e', _, c'⟩ := k.dat e; ⟨o', e', c'.trans q⟩, x.keep.trans k, x.nl, x.nc, x.lo⟩
theorem Bd.push {h₀ : Heap} {env : Env} {m cm} {h : Heap} (x : Bd h₀ env m cm h) (o : Obj) : Bd h₀ env m cm (h.push o) := x.kp (Kp.push h o)
theorem Bd.frame {h₀ : Heap} {env : Env} {m cm} {h : Heap} (x : Bd h₀ env m cm h) (hf : env.frame = some env.locals) :
    ∃ L o es n, env.frame = some L ∧ h.get? L = some o ∧ o.cls = .type "frame" ∧ o.data = .dict es n ∧ Lo.n ≤ L := by
  obtain ⟨o, es, ep, e, d, _⟩ := x.ev.ns
  obtain ⟨o', e', c⟩ := x.fc
  rw [e] at e'; cases e'
  exact ⟨_, o, es, ep, hf, e, c, d, x.lo⟩

section
variable {M : Model} {A : Around} {E : Value → Shared → Prop} {s : Shared} {env : Env} {m cm : Str → Option Value} {h₀ : Heap}
omit [Lo] in
abbrev upd (m : Str → Option Value) (x : Str) (v : Value) : Str → Option Value := fun y => if y = x then some v else m y

theorem st_loc' {x : Str} {v : Value} {Q : Unit → Shared → Prop} (X : Bd h₀ env m cm s.heap)
    (h : ∀ h', Bd h₀ env (upd m x v) cm h' → Ko s.heap h' → Heap.SameBut env.locals s.heap h' → Q () { s with heap := h', toks := s.toks + 1 })
    (hl : env.kindOf x = some .local := by rfl) (hp : (env.scope.kind == .class || (env.scope.kind == .module && env.locals != env.globals)) = false := by rfl) :
    wpAny M A (storeName env x v) Q E s := by
  rw [storeName_local hl hp]
  refine st_ns X.ev.ns fun h' hn hs hc => ?_
  obtain ⟨oL, eL, cL⟩ := X.fc
  have hne : ∀ n c, (n, c) ∈ env.cells → c ≠ env.locals := fun n c hm e => by
    obtain ⟨o, e1, c1⟩ := X.cc n c hm
    rw [e, eL] at e1; cases e1
    rw [cL] at c1; exact absurd c1 (by decide)
  refine h h' ⟨⟨hn, fun n c e => ?_⟩, ?_, X.apart, fun n c hm => ?_, ⟨fun b o e n => ?_, fun b o e => ?_⟩, X.nl, X.nc, X.lo⟩ (fun b o e n1 _ => ?_) hs
  · exact (X.ev.cell n c e).sameBut hs (hne n c (mem_of_lookup e))
  · obtain ⟨o', e', c'⟩ := hc oL eL; exact ⟨o', e', c'.trans cL⟩
  · obtain ⟨o, e1, c1⟩ := X.cc n c hm; exact ⟨o, (hs.2 c (hne n c hm)).trans e1, c1⟩
  · exact (hs.2 b (nn (X.nl) e)).trans (X.keep.off b o e n)
  · obtain ⟨sl, e1⟩ := X.keep.on b o e
    exact ⟨sl, (hs.2 b (nn (X.nl) e)).trans e1⟩
  · exact (hs.2 b (fun q => by subst q; rw [eL] at e; cases e; exact n1 cL)).trans e

theorem st_loc {x : Str} {v : Value} {Q : Unit → Shared → Prop} (X : Bd h₀ env m cm s.heap)
    (h : ∀ h', Bd h₀ env (upd m x v) cm h' → Ko s.heap h' → Q () { s with heap := h', toks := s.toks + 1 })
    (hl : env.kindOf x = some .local := by rfl) (hp : (env.scope.kind == .class || (env.scope.kind == .module && env.locals != env.globals)) = false := by rfl) :
    wpAny M A (storeName env x v) Q E s := st_loc' X (fun h' a b _ => h h' a b) hl hp

theorem st_cell {x : Str} {v : Value} {Q : Unit → Shared → Prop} (X : Bd h₀ env m cm s.heap)
    (h : ∀ h', Bd h₀ env m (upd cm x v) h' → Ko s.heap h' → Q () { s with heap := h' })
    (hk : env.scope.kind = .function := by rfl) (hl : env.kindOf x = some .cell := by rfl) (hc : ∃ c, env.cells.lookup x = some c := by exact ⟨_, rfl⟩) :
    wpAny M A (storeName env x v) Q E s := by
  obtain ⟨c, hc⟩ := hc
  obtain ⟨oL, eL, cL⟩ := X.fc
  have hm := mem_of_lookup hc
  obtain ⟨oc, ec, cc⟩ := X.cc x c hm
  have hcL : env.locals ≠ c := fun q => by rw [← q, eL] at ec; cases ec; rw [cL] at cc; exact absurd cc (by decide)
  have hu : wpAny M A (storeName env x v) (fun _ s' => s' = { s with heap := s.heap.update c fun o => { o with data := .cell (some v) } }) E s := by
    obtain ⟨o, ho, hd⟩ := X.ev.cell x c hc
    unfold storeName
    simp only [hl, hk]
    refine wpAny_bind (wpAny_cellOf hc ?_)
    unfold cellSet
    refine wpAny_bind (wpAny_load ho ?_)
    rw [hd]
    exact wpAny_update ho rfl
  refine wpAny_mono hu (fun _ s' e' => ?_) fun _ _ e => e
  subst e'
  have hs : Heap.SameBut c s.heap (s.heap.update c fun o => { o with data := .cell (some v) }) := Heap.SameBut.update ..
  have es : (s.heap.update c fun o => { o with data := .cell (some v) }).get? c = some { oc with data := .cell (some v) } := Heap.get?_update_self _ ec rfl
  refine h _ ⟨⟨X.ev.ns.sameBut hs hcL, fun n c' e => ?_⟩, ⟨oL, (hs.2 _ hcL).trans eL, cL⟩, X.apart, fun n c' hm' => ?_, ⟨fun b o e n => ?_, fun b o e => ?_⟩, X.nl, X.nc, X.lo⟩ fun b o e n1 n2 => ?_
  · by_cases hn : n = x
    · subst hn; rw [hc] at e; cases e
      refine ⟨_, es, ?_⟩
      simp [upd]
    · have hcc : c' ≠ c := fun q => hn (name_of_addr X.apart (mem_of_lookup e) (q ▸ hm))
      have := (X.ev.cell n c' e).sameBut hs hcc
      simpa [upd, hn] using this
  · by_cases hcc : c' = c
    · subst hcc; exact ⟨_, es, cc⟩
    · obtain ⟨o, e1, c1⟩ := X.cc n c' hm'; exact ⟨o, (hs.2 c' hcc).trans e1, c1⟩
  · exact (hs.2 b (nn (X.nc x _ hm) e)).trans (X.keep.off b o e n)
  · obtain ⟨sl, e1⟩ := X.keep.on b o e
    exact ⟨sl, (hs.2 b (nn (X.nc x _ hm) e)).trans e1⟩
  · exact (hs.2 b (fun q => by subst q; rw [ec] at e; cases e; exact n2 cc)).trans e
end

/-- the binds laid into a new block -/
theorem bind_all {M : Model} {A : Around} {E : Value → Shared → Prop} {env : Env} {h₀ : Heap} (f : Str × Value → PUnit → Sem (ForInStep PUnit)) (hf : ∀ n v u, f (n, v) u = (do storeName env n v; pure (.yield ⟨⟩)))
    (hk : env.scope.kind = .function) (hp : (env.scope.kind == .class || (env.scope.kind == .module && env.locals != env.globals)) = false) :
    ∀ (binds : List (Str × Value)) (m cm : Str → Option Value) (s : Shared) (Q : PUnit → Shared → Prop), Bd h₀ env m cm s.heap →
      (∀ x ∈ binds, env.kindOf x.1 = some .local ∨ (env.kindOf x.1 = some .cell ∧ (env.cells.lookup x.1).isSome = true)) →
      (∀ h' t', Bd h₀ env (bindL env.kindOf binds m) (bindC env.kindOf binds cm) h' → Q ⟨⟩ { s with heap := h', toks := t' }) → wpAny M A (forIn binds ⟨⟩ f) Q E s
  | [], m, cm, s, Q, x, _, h => by rw [List.forIn_nil]; exact wpAny_pure (h s.heap s.toks x)
  | (n, v) :: r, m, cm, s, Q, x, hkind, h => by
    rw [List.forIn_cons, hf]
    have hr : ∀ y ∈ r, env.kindOf y.1 = some .local ∨ (env.kindOf y.1 = some .cell ∧ (env.cells.lookup y.1).isSome = true) := fun y hy => hkind y (List.mem_cons_of_mem _ hy)
    rcases hkind (n, v) List.mem_cons_self with hl | ⟨hl, hc⟩
    · refine wpAny_bind (wpAny_bind (st_loc x (fun h1 x' _ => wpAny_pure (bind_all f hf hk hp r _ _ _ Q x' hr fun h2 t2 x'' => h h2 t2 ?_)) hl hp))
      unfold bindL bindC; rw [if_pos hl, if_pos hl]; exact x''
    · have hnl : ¬ env.kindOf n = some .local := by rw [hl]; decide
      refine wpAny_bind (wpAny_bind (st_cell x (fun h1 x' _ => wpAny_pure (bind_all f hf hk hp r _ _ _ Q x' hr fun h2 t2 x'' => h h2 t2 ?_)) hk hl (Option.isSome_iff_exists.mp hc)))
      unfold bindL bindC; rw [if_neg hnl, if_neg hnl]; exact x''

omit [Lo] in
theorem pushCells_cls : ∀ (names : List (Str × NameKind)) (h : Heap) (acc : List (Str × Addr)), (∀ n c, (n, c) ∈ acc → ∃ o, h.get? c = some o ∧ o.cls = .type "cell") →
    ∀ n c, (n, c) ∈ cellsFrom h.objs.size names acc → ∃ o, (pushCells h names).get? c = some o ∧ o.cls = .type "cell"
  | [], _, _, H => H
  | (name, kind) :: r, h, acc, H => by
    unfold pushCells cellsFrom
    split
    · have := pushCells_cls r (h.push { cls := .type "cell", data := .cell none }) ((name, h.objs.size) :: acc) (fun n c hm => by
        rcases List.mem_cons.mp hm with e | hm
        · cases e; exact ⟨_, Heap.get?_push_size _ rfl, rfl⟩
        · obtain ⟨o, e, q⟩ := H n c hm; exact ⟨o, Heap.get?_push_of_some _ e, q⟩)
      rwa [Heap.size_push] at this
    · exact pushCells_cls r h acc H

section
variable {w : World} {A : Around} {s : Shared}

theorem new_env (hlo : Lo.n ≤ s.heap.objs.size) {E : Value → Shared → Prop} {scope : Scope} {globals : Addr} {binds : List (Str × Value)} {qual : Str} {func : Option Addr} {code : Value} {builtins : Addr} {Q : Env → Shared → Prop}
    (hk : scope.kind = .function)
    (hkind : ∀ x ∈ binds, scope.names.lookup x.1 = some .local ∨ (scope.names.lookup x.1 = some .cell ∧ ((cellsFrom (s.heap.objs.size + 1) scope.names []).lookup x.1).isSome = true))
    (hQ : ∀ env, env = newEnv scope s.heap.objs.size globals (cellsFrom (s.heap.objs.size + 1) scope.names []) qual func code none builtins →
      ∀ h' t', Bd s.heap env (bindL env.kindOf binds fun _ => none) (bindC env.kindOf binds fun _ => none) h' → Q env { s with heap := h', toks := t' }) :
    wpAny (model PW w) A (newFunctionEnv scope globals [] binds qual func code none builtins) Q E s := by
  simp only [newFunctionEnv, Option.isSome_none, Bool.false_eq_true, if_false]
  refine wpAny_bind (wpAny_alloc ?_)
  refine wpAny_bind (wpAny_layCells _ (fun name kind cells => by cases hkc : kind == NameKind.cell <;> simp [hkc]) _ _ _ _ ?_)
  have ok := cellsFrom_ok scope.names (s.heap.push { cls := .type "frame", data := .dict #[] }) (s.heap.objs.size + 1) [] ⟨fun _ _ hm => (nomatch hm), List.Pairwise.nil⟩ (by rw [Heap.size_push]; exact Nat.le_refl _)
  have okc := pushCells_cls scope.names (s.heap.push { cls := .type "frame", data := .dict #[] }) [] (fun _ _ hm => (nomatch hm))
  rw [Heap.size_push] at ok okc
  rw [show ({ s with heap := s.heap.push { cls := .type "frame", data := .dict #[] } } : Shared).heap.objs.size = s.heap.objs.size + 1 from Heap.size_push ..]
  refine wpAny_bind (bind_all (h₀ := s.heap) (env := newEnv scope s.heap.objs.size globals (cellsFrom (s.heap.objs.size + 1) scope.names []) qual func code none builtins)
    _ (fun _ _ _ => rfl) hk (by show (scope.kind == .class || (scope.kind == .module && _)) = false; rw [hk]; rfl) binds (fun _ => none) (fun _ => none) _ _
    ⟨⟨(Heap.Ns.new s.heap (.type "frame")).keeps (pushCells_keeps _ _), fun n c hc => (ok.empty n c (mem_of_lookup hc)).1⟩,
      ⟨_, pushCells_keeps _ _ _ _ (Heap.get?_push_size _ rfl), rfl⟩, ok.apart, okc, Kp.of fun b o e => pushCells_keeps _ _ b o (Heap.get?_push_of_some _ e), size_none _,
      fun n c hm => ge_none (Nat.le_of_succ_le (ok.empty n c hm).2), hlo⟩
    hkind fun h' t' x => wpAny_pure (hQ _ rfl h' t' x))

/-- a call of a def: its body over its own names -/
theorem enter {R : Result → Shared → Prop} {a : Addr} {o : Obj} {fd : FuncData} {body : List Stmt} {args : Args} (C : Cx w s.heap) (hroom : A.depth < recursionLimit)
    (ho : s.heap.get? a = some o) (hdata : o.data = .func fd) (hcd : s.heap.CodeRec fd.code fd.qualname) (hbody : fd.body = .stmts body) (hclo : fd.closure = [])
    (hb : wpAny (model PW w) A.in1 (bindArgs fd args) (fun binds s₁ => Kp s.heap s₁.heap ∧
      (∀ x ∈ binds, fd.scope.names.lookup x.1 = some .local ∨ (fd.scope.names.lookup x.1 = some .cell ∧ ((cellsFrom (s₁.heap.objs.size + 1) fd.scope.names []).lookup x.1).isSome = true)) ∧
      ∀ h₁ t₁, Bd s₁.heap (callEnvC fd s₁.heap.objs.size a) (bindL (callEnvC fd s₁.heap.objs.size a).kindOf binds fun _ => none) (bindC (callEnvC fd s₁.heap.objs.size a).kindOf binds fun _ => none) h₁ →
        wpAny (model PW w) (A.deeper (callEnvC fd s₁.heap.objs.size a)) (execs body (callEnvC fd s₁.heap.objs.size a)) (fun f s' => R (.ok (.ret (match f with | .ret v => v | _ => .none))) s')
          (fun e s' => wpAny (model PW w) (A.deeper (callEnvC fd s₁.heap.objs.size a)) (leaving (callEnvC fd s₁.heap.objs.size a) e) (fun _ s'' => R (.error e) s'') (fun e' s'' => R (.error e') s'') s') { s₁ with heap := h₁, toks := t₁ })
      (fun e s' => R (.error e) s') s)
    (hco : fd.scope.isCoroutine = false := by rfl) (hgen : fd.scope.isGenerator = false := by rfl) (hk : fd.scope.kind = .function := by rfl) :
    codeAny (model PW w) A (.call (.ref a) args) R s := by
  refine codeAny_call_function hroom ho hdata hco hgen hbody hcd (wpAny_mono hb (fun binds s₁ h₁ => ?_) fun _ _ e => e)
  obtain ⟨k, hkind, h⟩ := h₁
  rw [hclo]
  refine new_env (C.up k).sz hk hkind fun env he h' t' x => ?_
  subst he
  exact ⟨nolimit_kp C.l (k.trans x.keep), codeAny_func (h h' t' x)⟩
end
end

section
open PySem PySem.W PySem.Calls PyProof.Rows
variable [Lo]

omit [Lo] in
theorem cn (a b : String) (h : a ≠ b) : Value.type a ≠ Value.type b := fun e => h (by injection e)

omit [Lo] in
/-- what a for or a comprehension goes over -/
structure Src (w : World) (A : Around) (xv : Value) (s : Shared) (old : List Addr) (n : Nat) (P : Nat → Value → Prop) : Prop where
  it : ∀ (Q E : Value → Shared → Prop), (∀ o St, Walks PW w A s.heap.objs.size (s.heap.objs.size :: old) [s.heap.objs.size] n P St → St 0 (s.heap.push o) → o.isFreed = false →
    (∀ i h, St i h → ∃ o', h.get? s.heap.objs.size = some o' ∧ o'.cls ≠ .type "frame" ∧ o'.cls ≠ .type "cell") → Q (.ref s.heap.objs.size) { s with heap := s.heap.push o }) → wpAny (model PW w) A (pyIter xv) Q E s
  old : ∀ b ∈ old, ∃ o, s.heap.get? b = some o ∧ o.cls ≠ .type "frame" ∧ o.cls ≠ .type "cell"

section
variable {w : World} {A : Around} {s : Shared}
omit [Lo] in
theorem src_list {l : Addr} {vs : List Value} (hh : A.handled = none) (hl : s.heap.PlainList l vs.toArray) : Src w A (.ref l) s [l] vs.length (fun i v => vs[i]? = some v) := by
  obtain ⟨n, e⟩ := hl
  have hlt := Heap.lt_size e
  refine ⟨fun Q E h => ?_, fun b hb => ?_⟩
  · refine wpAny_pyIter_list (⟨_, e, rfl, n, rfl⟩ : s.heap.IsList l vs.toArray) (h _ (fun i h => h.IsListIter s.heap.objs.size l i ∧ h.IsList l vs.toArray) ?_ ⟨⟨_, Heap.get?_push_size _ rfl, rfl, rfl⟩, ⟨_, Heap.get?_push_of_some _ e, rfl, n, rfl⟩⟩ rfl ?_)
    · have W := Walks.list (prog := PW) (w := w) hh s.heap.objs.size l (Nat.ne_of_lt hlt) vs.toArray
      simpa using W
    · rintro i h ⟨⟨o, e1, c, _⟩, _⟩
      exact ⟨o, e1, by rw [c]; decide, by rw [c]; decide⟩
  · rw [List.mem_singleton.mp hb]
    exact ⟨_, e, cn _ _ (by decide), cn _ _ (by decide)⟩
omit [Lo] in
theorem src_tuple {l : Addr} {vs : List Value} (hh : A.handled = none) (hl : s.heap.IsTuple l vs.toArray) : Src w A (.ref l) s [l] vs.length (fun i v => vs[i]? = some v) := by
  obtain ⟨o, e, c, n, d⟩ := hl
  have hlt := Heap.lt_size e
  refine ⟨fun Q E h => ?_, fun b hb => ?_⟩
  · refine wpAny_pyIter_tuple (⟨_, e, c, n, d⟩ : s.heap.IsTuple l vs.toArray) (h _ (fun i h => h.IsTupleIter s.heap.objs.size l i ∧ h.IsTuple l vs.toArray) ?_ ⟨⟨_, Heap.get?_push_size _ rfl, rfl, rfl⟩, ⟨_, Heap.get?_push_of_some _ e, c, n, d⟩⟩ rfl ?_)
    · have W := Walks.tuple (prog := PW) (w := w) hh s.heap.objs.size l (Nat.ne_of_lt hlt) vs.toArray
      simpa using W
    · rintro i h ⟨⟨o, e1, c, _⟩, _⟩
      exact ⟨o, e1, by rw [c]; decide, by rw [c]; decide⟩
  · rw [List.mem_singleton.mp hb]
    exact ⟨_, e, by rw [c]; decide, by rw [c]; decide⟩
omit [Lo] in
theorem small_of {a b : Int} (h0 : -1000000 ≤ a) (h1 : a ≤ 1000000) (h2 : -1000000 ≤ b) (h3 : b ≤ 1000000) : Builtin.Range.small a b 1 = true := by
  unfold Builtin.Range.small Builtin.Range.rangeFitsLong Builtin.Range.rangeSize
  simp
  split <;> (first | lia | omega)
omit [Lo] in
theorem src_range {r : Addr} {a b : Int} {t u v : Tok} {n : Nat} (hh : A.handled = none) (hr : IsRange s.heap r a b 1 t u v) (h0 : -1000000 ≤ a) (h1 : a ≤ 1000000) (h2 : -1000000 ≤ b) (h3 : b ≤ 1000000) (hn : Builtin.Range.rangeSize a b 1 = n) :
    Src w A (.ref r) s [] n (fun i v => ∃ t, v = .int (a + (i : Int)) t) := by
  refine ⟨fun Q E h => ?_, fun b hb => nomatch hb⟩
  refine wpAny_pyIter_range hr (small_of h0 h1 h2 h3) (h _ (fun i h => IsRangeIter h s.heap.objs.size (a + (i : Nat) * 1) ((n : Int) - (i : Nat)) 1) ?_ ?_ rfl ?_)
  · have W := Walks.range (prog := PW) (w := w) hh s.heap.objs.size a 1 n
    simpa using W
  · simp only [hn]
    show (s.heap.push _).get? _ = _
    rw [Heap.get?_push_size _ rfl]
    simp
  · intro i h e
    exact ⟨_, e, cn _ _ (by decide), cn _ _ (by decide)⟩
omit [Lo] in
theorem src_str {x : Str} {t : Tok} (hh : A.handled = none) : Src w A (.str x t) s [] x.cps.size (SignAt x) := by
  refine ⟨fun Q E h => ?_, fun b hb => nomatch hb⟩
  cases ha : x.cps.all (· < 128)
  · refine wpAny_pyIter_wide ha (h _ _ (Walks.strWide hh _ x t) ⟨_, Heap.get?_push_size _ rfl, rfl, rfl⟩ rfl ?_)
    rintro i h ⟨o, e1, c, _⟩
    exact ⟨o, e1, by rw [c]; decide, by rw [c]; decide⟩
  · refine wpAny_pyIter_ascii ha (h _ _ (Walks.strAscii hh _ x t) ⟨_, Heap.get?_push_size _ rfl, rfl, rfl⟩ rfl ?_)
    rintro i h ⟨o, e1, c, _⟩
    exact ⟨o, e1, by rw [c]; decide, by rw [c]; decide⟩
end

omit [Lo] in
theorem cellsFrom_app : ∀ (names : List (Str × NameKind)) (n : Nat) (acc : List (Str × Addr)), cellsFrom n names acc = cellsFrom n names [] ++ acc
  | [], _, _ => rfl
  | (name, kind) :: r, n, acc => by
    unfold cellsFrom
    split
    · rw [cellsFrom_app r (n + 1) ((name, n) :: acc), cellsFrom_app r (n + 1) [(name, n)], List.append_assoc]; rfl
    · exact cellsFrom_app r n acc
omit [Lo] in
theorem lookup_app {α : Type} : ∀ (l r : List (Str × α)) (n : Str), (l ++ r).lookup n = (l.lookup n).or (r.lookup n)
  | [], _, _ => by simp
  | (k, v) :: l, r, n => by
    rw [List.cons_append, List.lookup_cons, List.lookup_cons]
    cases n == k <;> simp [lookup_app l r n]
omit [Lo] in
theorem pushCells_size : ∀ (names : List (Str × NameKind)) (h : Heap), h.objs.size ≤ (pushCells h names).objs.size
  | [], _ => Nat.le_refl _
  | (name, kind) :: r, h => by
    unfold pushCells
    split
    · have := pushCells_size r (h.push { cls := .type "cell", data := .cell none })
      rw [Heap.size_push] at this; (first | lia | omega)
    · exact pushCells_size r h

omit [Lo] in
/-- the block of a comprehension -/
abbrev cenvOf (scope : Scope) (cl : List (Str × Addr)) (C : Addr) (env : Env) : Env := compEnvC scope (cellsFrom (C + 1) scope.names [] ++ cl) C env

omit [Lo] in
theorem new_cenv {w : World} {A : Around} {E : Value → Shared → Prop} {s : Shared} {scope : Scope} {cl : List (Str × Addr)} {env : Env} {Q : Env → Shared → Prop}
    (h : Q { scope := scope, locals := s.heap.objs.size, globals := env.globals, cells := cellsFrom (s.heap.objs.size + 1) scope.names [] ++ cl, qual := env.qual, func := none, code := env.code, frame := env.frame, builtins := env.builtins }
      { s with heap := pushCells (s.heap.push { cls := .type "dict", data := .dict #[] }) scope.names }) :
    wpAny (model PW w) A (newFunctionEnv scope env.globals cl [] env.qual none .none (some env)) Q E s := by
  simp only [newFunctionEnv, Option.isSome_some, if_true]
  refine wpAny_bind (wpAny_alloc ?_)
  refine wpAny_bind (wpAny_layCells _ (fun name kind cells => by cases hkc : kind == NameKind.cell <;> simp) _ _ _ _ ?_)
  rw [show ({ s with heap := s.heap.push { cls := .type "dict", data := .dict #[] } } : Shared).heap.objs.size = s.heap.objs.size + 1 from Heap.size_push .., cellsFrom_app]
  rw [List.forIn_nil]
  exact wpAny_bind (wpAny_pure (wpAny_pure h))

/-- an element, come out -/
inductive EltEnd (s₃ : Shared) (K J : Heap → Prop) (s₅ : Shared) : Prop
  | mk (h₅ : Heap) (t₅ : Nat) (e : s₅ = { s₃ with heap := h₅, toks := t₅ }) (k : K h₅) (j : J h₅) : EltEnd s₃ K J s₅
/-- an element, come out, with a word of the heap besides -/
inductive EltEndT (s₃ : Shared) (K T J : Heap → Prop) (s₅ : Shared) : Prop
  | mk (h₅ : Heap) (t₅ : Nat) (e : s₅ = { s₃ with heap := h₅, toks := t₅ }) (k : K h₅) (t : T h₅) (j : J h₅) : EltEndT s₃ K T J s₅
/-- what one turn of a list comprehension has to bring -/
def Turn (w : World) (A : Around) (env : Env) (scope : Scope) (cl : List (Str × Addr)) (cmo : Str → Option Value) (x : Str) (ifs : List Expr) (elt : Expr) (n : Nat) (P : Nat → Value → Prop)
    (J : (Addr → Prop) → Heap → List Value → List Value → Prop) (s₁ : Shared) : Prop :=
  ∀ (C : Addr) (pv : Addr → Prop) (vs ys : List Value) (v : Value) (s₃ : Shared) (m cm : Str → Option Value) (E' : Value → Shared → Prop),
    vs.length < n → P vs.length v → (∀ j u, vs[j]? = some u → P j u) → J pv s₃.heap vs ys → Kp s₁.heap s₃.heap → (∀ b, pv b → ∃ o, s₃.heap.get? b = some o) → (∀ b, pv b → s₁.heap.get? b = none) → Ev (cenvOf scope cl C env) m cm s₃.heap →
    (scope.names.lookup x = some .local → m x = some v) → (∀ c, (cellsFrom (C + 1) scope.names []).lookup x = some c → cm x = some v) → (∀ y, (cellsFrom (C + 1) scope.names []).lookup y = none → cm y = cmo y) →
    wpAny (model PW w) A (forIn ifs true fun c r => if r = true then do let ok ← isTrue c (cenvOf scope cl C env) (eval c (cenvOf scope cl C env)); pure (ForInStep.yield ok) else pure (ForInStep.yield r))
      (fun ok s₄ => EltEnd s₃ (Kp s₃.heap) (fun h₄ => if ok = true then
          wpAny (model PW w) A (eval elt (cenvOf scope cl C env)) (fun y s₅ => EltEnd s₃ (Kp h₄) (fun h₅ => J pv h₅ (vs ++ [v]) (ys ++ [y])) s₅) E' s₄
        else J pv h₄ (vs ++ [v]) ys) s₄) E' s₃
/-- the same, over a way of keeping the heap -/
def TurnG (K : Heap → Heap → Prop) (T : Heap → Prop) (w : World) (A : Around) (env : Env) (scope : Scope) (cl : List (Str × Addr)) (cmo : Str → Option Value) (x : Str) (ifs : List Expr) (elt : Expr) (n : Nat) (P : Nat → Value → Prop)
    (J : (Addr → Prop) → Heap → List Value → List Value → Prop) (s₁ : Shared) : Prop :=
  ∀ (C : Addr) (pv : Addr → Prop) (vs ys : List Value) (v : Value) (s₃ : Shared) (m cm : Str → Option Value) (E' : Value → Shared → Prop),
    vs.length < n → P vs.length v → (∀ j u, vs[j]? = some u → P j u) → J pv s₃.heap vs ys → K s₁.heap s₃.heap → T s₃.heap → (∀ b, pv b → ∃ o, s₃.heap.get? b = some o) → (∀ b, pv b → s₁.heap.get? b = none) → Ev (cenvOf scope cl C env) m cm s₃.heap →
    (scope.names.lookup x = some .local → m x = some v) → (∀ c, (cellsFrom (C + 1) scope.names []).lookup x = some c → cm x = some v) → (∀ y, (cellsFrom (C + 1) scope.names []).lookup y = none → cm y = cmo y) →
    wpAny (model PW w) A (forIn ifs true fun c r => if r = true then do let ok ← isTrue c (cenvOf scope cl C env) (eval c (cenvOf scope cl C env)); pure (ForInStep.yield ok) else pure (ForInStep.yield r))
      (fun ok s₄ => EltEndT s₃ (K s₃.heap) T (fun h₄ => if ok = true then
          wpAny (model PW w) A (eval elt (cenvOf scope cl C env)) (fun y s₅ => EltEndT s₃ (K h₄) T (fun h₅ => J pv h₅ (vs ++ [v]) (ys ++ [y])) s₅) E' s₄
        else J pv h₄ (vs ++ [v]) ys) s₄) E' s₃
/-- a way of keeping the heap, but for the addresses Z, with a word T of it -/
structure KR (K : Heap → Heap → Prop) (T : Heap → Prop) (Z : Addr → Prop) : Prop where
  of : ∀ {a b : Heap}, (∀ x o, a.get? x = some o → b.get? x = some o) → K a b
  tr : ∀ {a b c : Heap}, K a b → K b c → K a c
  ext : ∀ {a b c : Heap} {I : Addr}, K a b → a.get? I = none → (∀ x, x ≠ I → ∀ o, b.get? x = some o → c.get? x = some o) → K a c
  off : ∀ {a b : Heap} {x : Addr} {o : Obj}, K a b → ¬ Z x → a.get? x = some o → o.cls ≠ .type "frame" → b.get? x = some o
  ns : ∀ {a b : Heap} {x : Addr} {m : Str → Option Value}, K a b → ¬ Z x → a.Ns x m → b.Ns x m
  cell : ∀ {a b : Heap} {x : Addr} {v : Option Value}, K a b → ¬ Z x → a.IsCell x v → b.IsCell x v
  tof : ∀ {a b : Heap}, T a → (∀ x o, a.get? x = some o → b.get? x = some o) → T b
  text : ∀ {a b : Heap} {I : Addr}, T a → ¬ Z I → (∀ x, x ≠ I → ∀ o, a.get? x = some o → b.get? x = some o) → T b
theorem kp_ext {a b c : Heap} {I : Addr} (k : Kp a b) (n : a.get? I = none) (h : ∀ x, x ≠ I → ∀ o, b.get? x = some o → c.get? x = some o) : Kp a c :=
  ⟨fun x o e nf => h x (nn n e) o (k.off x o e nf), fun x o e => let ⟨sl, e1⟩ := k.on x o e; ⟨sl, h x (nn n e) _ e1⟩⟩
theorem kr_kp : KR Kp (fun _ => True) (fun _ => False) :=
  ⟨Kp.of, Kp.trans, kp_ext, fun k _ e n => k.off _ _ e n, fun k _ e => ns_kp e k, fun k _ e => cell_kp e k, fun _ _ => trivial, fun _ _ _ => trivial⟩
omit [Lo] in
/-- what holds between the turns of a comprehension -/
inductive CInv (s₁ : Shared) (I : Addr) (oc : List (Str × Addr)) (n : Nat) (P : Nat → Value → Prop) (St : Nat → Heap → Prop) (J : Heap → List Value → List Value → Prop) (K T : Heap → Prop) (k : Nat) (s' : Shared) : Prop
  | mk (h' : Heap) (tk : Nat) (m' ow : Str → Option Value) (ys vs : List Value) (e : s' = { s₁ with heap := h', toks := tk }) (st : St vs.length h') (acc : h'.PlainList (I + 1) ys.toArray) (yl : ys.length ≤ vs.length) (ns : h'.Ns (I + 2) m')
    (cells : ∀ y c, oc.lookup y = some c → h'.IsCell c (ow y)) (p : ∀ j v, vs[j]? = some v → P j v) (le : vs.length ≤ n) (hk : k = n + 1 - vs.length) (j : J h' vs ys) (kp : K h') (t : T h') : CInv s₁ I oc n P St J K T k s'
omit [Lo] in
/-- what a turn leaves as it was -/
structure CAft (I : Addr) (oc : List (Str × Addr)) (St K Acc : Heap → Prop) (m ow : Str → Option Value) (h : Heap) : Prop where
  st : St h
  acc : Acc h
  ns : h.Ns (I + 2) m
  cells : ∀ y c, oc.lookup y = some c → h.IsCell c (ow y)
  kp : K h
omit [Lo] in
theorem snoc_all {P : Nat → Value → Prop} {vs : List Value} {v : Value} (hP : ∀ j v, vs[j]? = some v → P j v) (hv : P vs.length v) : ∀ j u, (vs ++ [v])[j]? = some u → P j u := fun j u hj => by
  rcases Nat.lt_trichotomy j vs.length with h | h | h
  · exact hP j u (by rwa [List.getElem?_append_left h] at hj)
  · rw [h, List.getElem?_append_right (Nat.le_refl _), Nat.sub_self] at hj
    cases hj
    rw [h]
    exact hv
  · rw [List.getElem?_eq_none (by rw [List.length_append, List.length_singleton]; (first | lia | omega))] at hj
    cases hj
section
variable {w : World} {A : Around} {E : Value → Shared → Prop} {env : Env}
omit [Lo] in
/-- what is the comprehension's own: its iterator, what it fills, its frame and its cells -/
def pvOf (I : Addr) (oc : List (Str × Addr)) : Addr → Prop := fun b => b = I ∨ b = I + 1 ∨ b = I + 2 ∨ ∃ y, oc.lookup y = some b
/-- behind the store of the name -/
inductive CSto (I : Addr) (oc : List (Str × Addr)) (scope : Scope) (x : Str) (v : Value) (Acc K T J St : Heap → Prop) (m ow : Str → Option Value) (h : Heap) : Prop
  | mk (ns : h.Ns (I + 2) m) (acc : Acc h) (cells : ∀ y c, oc.lookup y = some c → h.IsCell c (ow y)) (kp : K h) (t : T h) (j : J h) (st : St h) (l : scope.names.lookup x = some .local → m x = some v) (c : ∀ c, oc.lookup x = some c → ow x = some v) : CSto I oc scope x v Acc K T J St m ow h
omit [Lo] in
theorem comp_store {K : Heap → Heap → Prop} {T : Heap → Prop} {Z : Addr → Prop} (kr : KR K T Z) {x : Str} {px : Pos} {scope : Scope} {cl : List (Str × Addr)} {s₁ : Shared} {old : List Addr} {St : Heap → Prop} {I : Addr} {oc : List (Str × Addr)} {v : Value} {Acc J : Heap → Prop}
    (hkind : scope.kind = .function) (hx : (scope.names.lookup x = some .local ∧ ∀ C : Addr, (cellsFrom (C + 1) scope.names []).lookup x = none) ∨ (scope.names.lookup x ≠ some .local) ∧ ∀ C : Addr, (cenvOf scope cl C env).kindOf x = some .cell ∧ ∃ c, (cellsFrom (C + 1) scope.names []).lookup x = some c)
    (hoc : cellsFrom (I + 2 + 1) scope.names [] = oc) (apart : oc.Pairwise fun a b => a.2 ≠ b.2) (pvn : ∀ b, pvOf I oc b → s₁.heap.get? b = none) (ocb : ∀ y c, oc.lookup y = some c → c ≠ I ∧ c ≠ I + 1 ∧ c ≠ I + 2) (hZn : ∀ a, s₁.heap.get? a = none → ¬ Z a)
    (hold : ∀ b ∈ old, ∃ o, s₁.heap.get? b = some o ∧ o.cls ≠ .type "frame" ∧ o.cls ≠ .type "cell")
    (hSt : ∀ h h' : Heap, (∀ b ∈ I :: old, ∀ o, h.get? b = some o → h'.get? b = some o) → St h → St h') (hAcc : ∀ h h' : Heap, (∀ o, h.get? (I + 1) = some o → h'.get? (I + 1) = some o) → Acc h → Acc h')
    (hJ : ∀ h h' : Heap, (∀ b o, ¬ pvOf I oc b → h.get? b = some o → o.cls ≠ .type "frame" → h'.get? b = some o) → J h → J h')
    {h₁ : Heap} {tk₁ : Nat} {m' ow : Str → Option Value} (hn1 : h₁.Ns (I + 2) m') (hacc1 : Acc h₁) (how1 : ∀ y c, oc.lookup y = some c → h₁.IsCell c (ow y)) (hK1 : K s₁.heap h₁) (hT1 : T h₁) (hJ1 : J h₁) (hst₁ : St h₁)
    {Kc : Unit → Shared → Prop} {E'' : Value → Shared → Prop} (hK : ∀ (h₂ : Heap) (tk₂ : Nat) (m₂ ow₂ : Str → Option Value), CSto I oc scope x v Acc (K s₁.heap) T J St m₂ ow₂ h₂ → Kc () { s₁ with heap := h₂, toks := tk₂ }) :
    wpAny (model PW w) A (assign (.Name x px) (cenvOf scope cl (I + 2) env) v) Kc E'' { s₁ with heap := h₁, toks := tk₁ } := by
  have hpc : ((cenvOf scope cl (I + 2) env).scope.kind == .class || ((cenvOf scope cl (I + 2) env).scope.kind == .module && (cenvOf scope cl (I + 2) env).locals != (cenvOf scope cl (I + 2) env).globals)) = false := by
    show (scope.kind == .class || (scope.kind == .module && _)) = false
    rw [hkind]; rfl
  have bI : ∀ {z : Addr}, s₁.heap.get? z = none → ∀ b ∈ old, b ≠ z := fun hz b hb => let ⟨_, e', _⟩ := hold b hb; nn hz e'
  have sI : I + 1 ≠ I + 2 := Nat.ne_of_lt (Nat.lt_succ_self _)
  have s2 : I ≠ I + 2 := Nat.ne_of_lt (Nat.lt_add_of_pos_right (by decide))
  rcases hx with ⟨hxl, hxn⟩ | ⟨hnl, hxc⟩
  · have f2 : s₁.heap.get? (I + 2) = none := pvn _ (.inr (.inr (.inl rfl)))
    refine wpAny_assign_Name (wpAny_storeName_local (lookup_relabel_local hxl) hn1 (fun h₂ hn₂ hs₂ => ?_) hpc)
    have off : ∀ b, b ≠ I + 2 → ∀ o', h₁.get? b = some o' → h₂.get? b = some o' := fun b hb o' e => hs₂.extBut b o' hb e
    refine hK h₂ _ _ ow ⟨hn₂, hAcc _ _ (fun o e => off _ sI _ e) hacc1, fun y c hy => let ⟨o', e, d⟩ := how1 y c hy; ⟨o', off c (ocb y c hy).2.2 _ e, d⟩, kr.ext hK1 f2 off, kr.text hT1 (hZn _ f2) off,
      hJ _ _ (fun b o' np e _ => off b (fun q => np (.inr (.inr (.inl q)))) _ e) hJ1, hSt _ _ (fun b hb o' e => off b ((List.mem_cons.mp hb).elim (fun q => q ▸ s2) (bI f2 b)) _ e) hst₁, fun _ => by simp, fun c hc => ?_⟩
    have := hxn (I + 2); rw [hoc, hc] at this; cases this
  · obtain ⟨hkc, c, hc⟩ := hxc (I + 2)
    rw [hoc] at hc
    have cb := ocb x c hc
    have cfr : s₁.heap.get? c = none := pvn c (.inr (.inr (.inr ⟨x, hc⟩)))
    refine wpAny_assign_Name (wpAny_storeName_cell (by show scope.kind = .function; exact hkind) hkc (by show (cellsFrom (I + 2 + 1) scope.names [] ++ cl).lookup x = some c; rw [hoc, lookup_app, hc]; rfl) (how1 x c hc) (fun h₂ hc₂ hs₂ => ?_))
    have off : ∀ b, b ≠ c → ∀ o', h₁.get? b = some o' → h₂.get? b = some o' := fun b hb o' e => hs₂.extBut b o' hb e
    refine hK h₂ _ _ (fun y => if y = x then some v else ow y) ⟨hn1.at' fun o' e => off _ (Ne.symm cb.2.2) _ e, hAcc _ _ (fun o e => off _ (Ne.symm cb.2.1) _ e) hacc1, fun y c' hy => ?_,
      kr.ext hK1 cfr off, kr.text hT1 (hZn _ cfr) off, hJ _ _ (fun b o' np e _ => off b (fun q => np (.inr (.inr (.inr ⟨x, q ▸ hc⟩)))) _ e) hJ1, hSt _ _ (fun b hb o' e => off b ((List.mem_cons.mp hb).elim (fun q => q ▸ cb.1.symm) (bI cfr b)) _ e) hst₁, fun hl => absurd hl hnl, fun _ _ => by simp⟩
    by_cases hyx : y = x
    · have : c' = c := by rw [hyx, hc] at hy; injection hy with hy; exact hy.symm
      rw [this, if_pos hyx]
      exact hc₂
    · have hcc : c' ≠ c := fun q => hyx (name_of_addr apart (mem_of_lookup hy) (q ▸ mem_of_lookup hc))
      obtain ⟨o', e, d⟩ := how1 y c' hy
      rw [if_neg hyx]
      exact ⟨o', off c' hcc _ e, d⟩
open Classical in
theorem comp_coreG {K : Heap → Heap → Prop} {T : Heap → Prop} {Z : Addr → Prop} (kr : KR K T Z) {elt iter : Expr} {x : Str} {px : Pos} {ifs : List Expr} {scope : Scope} {pos : Pos} {cl : List (Str × Addr)} {cmo : Str → Option Value} {s₁ : Shared} {old : List Addr} {n : Nat} {P : Nat → Value → Prop} {St : Nat → Heap → Prop} {o : Obj}
    {J : (Addr → Prop) → Heap → List Value → List Value → Prop} {RR : Value → Addr → Result → Shared → Prop}
    (W : Walks PW w A s₁.heap.objs.size (s₁.heap.objs.size :: old) [s₁.heap.objs.size] n P St) (hst : St 0 (s₁.heap.push o)) (hof : o.isFreed = false) (hlive : ∀ i h, St i h → ∃ o', h.get? s₁.heap.objs.size = some o' ∧ o'.cls ≠ .type "frame" ∧ o'.cls ≠ .type "cell")
    (hold : ∀ b ∈ old, ∃ o, s₁.heap.get? b = some o ∧ o.cls ≠ .type "frame" ∧ o.cls ≠ .type "cell") (hsz : n ≤ sizeLine)
    (hkind : scope.kind = .function) (hx : (scope.names.lookup x = some .local ∧ ∀ C : Addr, (cellsFrom (C + 1) scope.names []).lookup x = none) ∨ (scope.names.lookup x ≠ some .local) ∧ ∀ C : Addr, (cenvOf scope cl C env).kindOf x = some .cell ∧ ∃ c, (cellsFrom (C + 1) scope.names []).lookup x = some c)
    (hcl : ∀ n c, cl.lookup n = some c → s₁.heap.IsCell c (cmo n) ∧ ¬ Z c)
    (hJ : ∀ pv h h' vs ys, (∀ b o, ¬ pv b → h.get? b = some o → o.cls ≠ .type "frame" → h'.get? b = some o) → J pv h vs ys → J pv h' vs ys) (hJ0 : ∀ pv h, J pv h [] []) (hT : T s₁.heap) (hZn : ∀ a, s₁.heap.get? a = none → ¬ Z a) (hZo : ∀ b ∈ old, ¬ Z b)
    (turn : TurnG K T w A env scope cl cmo x ifs elt n P J s₁)
    (hRR : ∀ D C h' tk m' ys (vs : List Value) pv, s₁.heap.get? D = none → s₁.heap.get? C = none → D ≠ C → pv D → pv C → h'.Ns C m' → h'.PlainList D ys.toArray → vs.length = n → (∀ j v, vs[j]? = some v → P j v) → J pv h' vs ys →
      K s₁.heap h' → T h' → (∀ b, pv b → s₁.heap.get? b = none) → RR (.ref D) C (.ok .next) { s₁ with heap := h', toks := tk }) :
    wpAny (model PW w) A (newList []) (fun acc s₃ => wpAny (model PW w) A (newFunctionEnv scope env.globals cl [] env.qual none .none (some env)) (fun cenv s₄ =>
      codeAny (model PW w) A (.compStart (.ListComp elt [⟨.Name x px, iter, ifs, 0⟩] scope pos) 0 (.ref s₁.heap.objs.size) acc { cenv with scope := relabel scope env }) (RR acc cenv.locals) s₄) E s₃) E { s₁ with heap := s₁.heap.push o } := by
  refine wpAny_newObj_type (new_cenv ?_)
  dsimp only
  generalize hH2 : (s₁.heap.push o).push { cls := .type "list", dict := none, data := .seq ([] : List Value).toArray } = H2
  have hD : (s₁.heap.push o).objs.size = s₁.heap.objs.size + 1 := Heap.size_push ..
  have hC : H2.objs.size = s₁.heap.objs.size + 2 := by rw [← hH2, Heap.size_push, hD]
  rw [hD, hC]
  generalize hI : s₁.heap.objs.size = I at *
  generalize hH3 : pushCells (H2.push { cls := .type "dict", data := .dict #[] }) scope.names = H3
  have k12 : ∀ b o', s₁.heap.get? b = some o' → H2.get? b = some o' := fun b o' e => by rw [← hH2]; exact Heap.get?_push_of_some _ (Heap.get?_push_of_some _ e)
  have k23 : ∀ b o', H2.get? b = some o' → H3.get? b = some o' := fun b o' e => by rw [← hH3]; exact pushCells_keeps _ _ _ _ (Heap.get?_push_of_some _ e)
  have hIobj : H3.get? I = some o := k23 _ _ (by rw [← hH2, ← hI]; exact Heap.get?_push_of_some _ (Heap.get?_push_size _ hof))
  have hDobj : H3.get? (I + 1) = some { cls := .type "list", dict := none, data := .seq ([] : List Value).toArray } := k23 _ _ (by rw [← hH2, ← hD]; exact Heap.get?_push_size _ rfl)
  have hCns : H3.Ns (I + 2) fun _ => none := by rw [← hH3, ← hC]; exact (Heap.Ns.new H2 (.type "dict")).keeps (pushCells_keeps _ _)
  have ok := cellsFrom_ok scope.names (H2.push { cls := .type "dict", data := .dict #[] }) (I + 3) [] ⟨fun _ _ hm => (nomatch hm), List.Pairwise.nil⟩ (by rw [Heap.size_push, hC]; exact Nat.le_refl _)
  rw [Heap.size_push, hC, hH3] at ok
  generalize hoc : cellsFrom (I + 2 + 1) scope.names [] = oc at ok ⊢
  have fr : ∀ a, I ≤ a → s₁.heap.get? a = none := fun a ha => ge_none (by rw [hI]; exact ha)
  have l1 : I ≤ I + 1 := Nat.le_succ I
  have l2 : I ≤ I + 2 := Nat.le_add_right I 2
  have n10 : I + 1 ≠ I := Nat.succ_ne_self I
  have n20 : I + 2 ≠ I := Nat.ne_of_gt (Nat.lt_add_of_pos_right (by decide))
  have n21 : I + 2 ≠ I + 1 := Nat.succ_ne_self (I + 1)
  have n01 : I ≠ I + 1 := n10.symm
  have n02 : I ≠ I + 2 := n20.symm
  have n12 : I + 1 ≠ I + 2 := n21.symm
  let pv : Addr → Prop := pvOf I oc
  have pvn : ∀ b, pv b → s₁.heap.get? b = none := by
    rintro b (q | q | q | ⟨y, hy⟩)
    · subst b; exact fr _ (Nat.le_refl _)
    · subst b; exact fr _ (by first | assumption | lia | omega)
    · subst b; exact fr _ (by first | assumption | lia | omega)
    · exact fr _ (by have := (ok.empty y b (mem_of_lookup hy)).2; (first | lia | omega))
  have ocb : ∀ y c, oc.lookup y = some c → c ≠ I ∧ c ≠ I + 1 ∧ c ≠ I + 2 := fun y c hy => by
    have := (ok.empty y c (mem_of_lookup hy)).2
    exact ⟨fun q => by rw [q] at this; (first | lia | omega), fun q => by rw [q] at this; (first | lia | omega), fun q => by rw [q] at this; (first | lia | omega)⟩
  have hst3 : St 0 H3 := W.frame _ _ _ hst fun b hb o' e => by
    rcases List.mem_cons.mp hb with q | hb
    · subst b; exact k23 _ _ (by rw [← hH2]; exact Heap.get?_push_of_some _ e)
    · exact k23 _ _ (by rw [← hH2]; exact Heap.get?_push_of_some _ e)
  have loop : ∀ s₃ : Shared, s₃ = { s₁ with heap := H3 } →
      codeAny (model PW w) A (.compLoop (.ListComp elt [⟨.Name x px, iter, ifs, 0⟩] scope pos) 0 (.ref I) (.ref (I + 1)) (cenvOf scope cl (I + 2) env)) (RR (.ref (I + 1)) (I + 2)) s₃ := by
    rintro s₃ rfl
    refine codeAny_compLoop_tests
      (CInv s₁ I oc n P St (J pv) (K s₁.heap) T) ?_ (n + 1)
      ⟨H3, _, _, fun _ => none, [], [], rfl, hst3, ⟨0, hDobj⟩, Nat.le_refl _, hCns, fun y c hy => (ok.empty y c (mem_of_lookup hy)).1, (fun _ _ q => nomatch q), Nat.zero_le _, rfl, hJ0 _ _, kr.of fun b o' e => k23 _ _ (k12 _ _ e), kr.tof hT fun b o' e => k23 _ _ (k12 _ _ e)⟩
    rintro k s' ⟨H, tk, m', ow, ys, vs, rfl, hst', hacc', hyl, hn', how, hP, hi, rfl, hJv, hk, hTk⟩
    have live : ∀ b, pv b → ∃ o, H.get? b = some o := by
      rintro b (q | q | q | ⟨y, hy⟩)
      · subst b; obtain ⟨o', e, _⟩ := hlive _ _ hst'; exact ⟨o', e⟩
      · subst b; obtain ⟨_, e⟩ := hacc'; exact ⟨_, e⟩
      · subst b; obtain ⟨_, _, _, e, _⟩ := hn'; exact ⟨_, e⟩
      · obtain ⟨_, e, _⟩ := how y b hy; exact ⟨_, e⟩
    by_cases hlt : vs.length < n
    · refine W.item vs.length _ _ _ hlt hst' fun v h₁ tk₁ hPv hst₁ hk₁ => ?_
      have offI : ∀ b, b ≠ I → ∀ o', H.get? b = some o' → h₁.get? b = some o' := fun b hb o' e => hk₁ b o' (by simpa using hb) e
      have hn1 : h₁.Ns (I + 2) m' := hn'.at' fun o' e => offI _ (by first | assumption | lia | omega) _ e
      have hacc1 : h₁.PlainList (I + 1) ys.toArray := hacc'.at fun o' e => offI _ (by first | assumption | lia | omega) _ e
      have how1 : ∀ y c, oc.lookup y = some c → h₁.IsCell c (ow y) := fun y c hy => by obtain ⟨o', e, d⟩ := how y c hy; exact ⟨o', offI c (ocb y c hy).1 _ e, d⟩
      have hT1 : T h₁ := kr.text hTk (hZn _ (fr _ (Nat.le_refl _))) offI
      have hK1 : K s₁.heap h₁ := kr.ext hk (fr _ (Nat.le_refl _)) offI
      have hJ1 : J pv h₁ vs ys := hJ _ _ _ _ _ (fun b o' np e _ => offI b (fun q => np (.inl q)) _ e) hJv
      refine comp_store kr hkind hx hoc ok.apart pvn ocb hZn hold (St := St (vs.length + 1)) (Acc := fun h => h.PlainList (I + 1) ys.toArray) (J := fun h => J pv h vs ys) (fun _ _ k z => W.frame _ _ _ z k) (fun _ _ k z => let ⟨n, e⟩ := z; ⟨n, k _ e⟩) (fun _ _ k z => hJ _ _ _ _ _ k z) hn1 hacc1 how1 hK1 hT1 hJ1 hst₁ fun h₂ tk₂ m₂ ow₂ cs => ?_
      obtain ⟨hn₂, hacc₂, how₂, hK₂, hT₂, hJ₂, hst₂, hmx, hcx⟩ := cs
      have live₂ : ∀ b, pv b → ∃ o, h₂.get? b = some o := by
        rintro b (q | q | q | ⟨y, hy⟩)
        · subst b; obtain ⟨o', e, _⟩ := hlive _ _ hst₂; exact ⟨o', e⟩
        · subst b; obtain ⟨_, e⟩ := hacc₂; exact ⟨_, e⟩
        · subst b; obtain ⟨_, _, _, e, _⟩ := hn₂; exact ⟨_, e⟩
        · obtain ⟨_, e, _⟩ := how₂ y b hy; exact ⟨_, e⟩
      have hP' := snoc_all hP hPv
      -- what a turn leaves as it was
      have after : ∀ h₄, K h₂ h₄ → CAft I oc (St (vs.length + 1)) (K s₁.heap) (fun h => h.PlainList (I + 1) ys.toArray) m₂ ow₂ h₄ := fun h₄ k =>
        ⟨W.frame _ _ _ hst₂ fun b hb o' e => by
            rcases List.mem_cons.mp hb with q | hb
            · subst b; obtain ⟨o2, e2, c2, _⟩ := hlive _ _ hst₂
              rw [e] at e2; cases e2
              exact kr.off k (hZn _ (fr _ (Nat.le_refl _))) e c2
            · obtain ⟨o2, e2, c2, _⟩ := hold b hb
              have e3 := kr.off hK₂ (hZo b hb) e2 c2
              rw [e] at e3; cases e3
              exact kr.off k (hZo b hb) e c2,
          let ⟨nn, e⟩ := hacc₂; ⟨nn, kr.off k (hZn _ (fr _ (by first | assumption | lia | omega))) e (cn _ _ (by decide))⟩, kr.ns k (hZn _ (fr _ (by first | assumption | lia | omega))) hn₂, fun y c hy => kr.cell k (hZn _ (pvn c (.inr (.inr (.inr ⟨y, hy⟩))))) (how₂ y c hy), kr.tr hK₂ k⟩
      refine wpAny_mono (turn (I + 2) pv vs ys v _ m₂ (fun y => match oc.lookup y with | some _ => ow₂ y | none => cmo y) _ hlt hPv hP hJ₂ hK₂ hT₂ live₂ pvn ⟨hn₂, fun y c hc => ?_⟩ hmx (fun c hc => ?_) (fun y hy => ?_)) (fun ok' s₄ h₄ => ?_) fun _ _ e => e
      · have hc' : (oc ++ cl).lookup y = some c := by rw [← hoc]; exact hc
        rw [lookup_app] at hc'
        cases hq : oc.lookup y with
        | some c' => rw [hq] at hc'; cases hc'; exact how₂ y c hq
        | none => rw [hq] at hc'; exact kr.cell hK₂ (hcl y c hc').2 (hcl y c hc').1
      · rw [hoc] at hc; simp only [hc]; exact hcx c hc
      · rw [hoc] at hy; simp only [hy]
      · obtain ⟨H4, t4, rfl, k4, tb4, rest⟩ := h₄
        by_cases hok : ok' = true
        · rw [if_pos hok] at rest ⊢
          refine wpAny_mono rest (fun y s₅ h₅ => ?_) fun _ _ e => e
          obtain ⟨H5, t5, rfl, k5, tb5, hJ5⟩ := h₅
          have a := after H5 (kr.tr k4 k5)
          refine wpAny_list_append_plain (hsz := by simp; (first | lia | omega)) a.acc fun H6 hl6 hs6 => ?_
          have off6 : ∀ b, b ≠ I + 1 → ∀ o', H5.get? b = some o' → H6.get? b = some o' := fun b hb o' e => hs6.extBut b o' hb e
          refine ⟨n + 1 - (vs.length + 1), by (first | lia | omega), H6, t5, m₂, ow₂, ys ++ [y], vs ++ [v], rfl, ?_, ?_, (by rw [List.length_append, List.length_append]; exact Nat.succ_le_succ hyl), a.ns.at' fun o' e => off6 _ (by first | assumption | lia | omega) _ e, fun z c hz => ?_, hP', (by rw [List.length_append, List.length_singleton]; exact hlt), (by rw [List.length_append, List.length_singleton]), ?_, kr.ext a.kp (fr _ (by first | assumption | lia | omega)) off6, kr.text tb5 (hZn _ (fr _ (by first | assumption | lia | omega))) off6⟩
          · rw [List.length_append, List.length_singleton]
            exact W.frame _ _ H6 a.st fun b hb o' e => off6 b (by
              rcases List.mem_cons.mp hb with q | hb
              · subst b; (first | lia | omega)
              · obtain ⟨_, e', _⟩ := hold b hb; exact nn (fr _ (by first | assumption | lia | omega)) e') _ e
          · simpa using hl6
          · obtain ⟨o', e, d⟩ := a.cells z c hz; exact ⟨o', off6 c (ocb z c hz).2.1 _ e, d⟩
          · exact hJ _ _ _ _ _ (fun b o' np e _ => off6 b (fun q => np (.inr (.inl q))) _ e) hJ5
        · rw [if_neg hok] at rest ⊢
          have a := after H4 k4
          exact ⟨n + 1 - (vs.length + 1), by (first | lia | omega), H4, t4, m₂, ow₂, ys, vs ++ [v], rfl, (by rw [List.length_append, List.length_singleton]; exact a.st), a.acc, Nat.le_trans hyl (by simp), a.ns, a.cells, hP', (by rw [List.length_append, List.length_singleton]; exact hlt), (by rw [List.length_append, List.length_singleton]), rest, a.kp, tb4⟩
    · have hin : vs.length = n := by (first | lia | omega)
      refine W.done _ _ _ (hin ▸ hst') fun h₁ tk₁ hk₁ => ?_
      have offI : ∀ b, b ≠ I → ∀ o', H.get? b = some o' → h₁.get? b = some o' := fun b hb o' e => hk₁ b o' (by simpa using hb) e
      refine hRR (I + 1) (I + 2) h₁ tk₁ m' ys vs pv (fr _ (by first | assumption | lia | omega)) (fr _ (by first | assumption | lia | omega)) (Nat.ne_of_lt (Nat.lt_succ_self _)) (.inr (.inl rfl)) (.inr (.inr (.inl rfl))) (hn'.at' fun o' e => offI _ (by first | assumption | lia | omega) _ e) (hacc'.at fun o' e => offI _ (by first | assumption | lia | omega) _ e) hin hP
        (hJ _ _ _ _ _ (fun b o' np e _ => offI b (fun q => np (.inl q)) _ e) hJv)
        (kr.ext hk (fr _ (Nat.le_refl _)) offI) (kr.text hTk (hZn _ (fr _ (Nat.le_refl _))) offI) pvn
  rw [← hoc]
  exact codeAny_compStart_list (loop _ rfl) (W.self 0 _ _ _ hst3 (loop _ rfl))
theorem comp_core {elt iter : Expr} {x : Str} {px : Pos} {ifs : List Expr} {scope : Scope} {pos : Pos} {cl : List (Str × Addr)} {cmo : Str → Option Value} {s₁ : Shared} {old : List Addr} {n : Nat} {P : Nat → Value → Prop} {St : Nat → Heap → Prop} {o : Obj}
    {J : (Addr → Prop) → Heap → List Value → List Value → Prop} {RR : Value → Addr → Result → Shared → Prop}
    (W : Walks PW w A s₁.heap.objs.size (s₁.heap.objs.size :: old) [s₁.heap.objs.size] n P St) (hst : St 0 (s₁.heap.push o)) (hof : o.isFreed = false) (hlive : ∀ i h, St i h → ∃ o', h.get? s₁.heap.objs.size = some o' ∧ o'.cls ≠ .type "frame" ∧ o'.cls ≠ .type "cell")
    (hold : ∀ b ∈ old, ∃ o, s₁.heap.get? b = some o ∧ o.cls ≠ .type "frame" ∧ o.cls ≠ .type "cell") (hsz : n ≤ sizeLine)
    (hkind : scope.kind = .function) (hx : (scope.names.lookup x = some .local ∧ ∀ C : Addr, (cellsFrom (C + 1) scope.names []).lookup x = none) ∨ (scope.names.lookup x ≠ some .local) ∧ ∀ C : Addr, (cenvOf scope cl C env).kindOf x = some .cell ∧ ∃ c, (cellsFrom (C + 1) scope.names []).lookup x = some c)
    (hcl : ∀ n c, cl.lookup n = some c → s₁.heap.IsCell c (cmo n))
    (hJ : ∀ pv h h' vs ys, (∀ b o, ¬ pv b → h.get? b = some o → o.cls ≠ .type "frame" → h'.get? b = some o) → J pv h vs ys → J pv h' vs ys) (hJ0 : ∀ pv h, J pv h [] [])
    (turn : Turn w A env scope cl cmo x ifs elt n P J s₁)
    (hRR : ∀ D C h' tk m' ys (vs : List Value) pv, s₁.heap.get? D = none → s₁.heap.get? C = none → D ≠ C → pv D → pv C → h'.Ns C m' → h'.PlainList D ys.toArray → vs.length = n → (∀ j v, vs[j]? = some v → P j v) → J pv h' vs ys →
      Kp s₁.heap h' → (∀ b, pv b → s₁.heap.get? b = none) → RR (.ref D) C (.ok .next) { s₁ with heap := h', toks := tk }) :
    wpAny (model PW w) A (newList []) (fun acc s₃ => wpAny (model PW w) A (newFunctionEnv scope env.globals cl [] env.qual none .none (some env)) (fun cenv s₄ =>
      codeAny (model PW w) A (.compStart (.ListComp elt [⟨.Name x px, iter, ifs, 0⟩] scope pos) 0 (.ref s₁.heap.objs.size) acc { cenv with scope := relabel scope env }) (RR acc cenv.locals) s₄) E s₃) E { s₁ with heap := s₁.heap.push o } := by
  refine comp_coreG kr_kp W hst hof hlive hold hsz hkind hx (fun n c h => ⟨hcl n c h, id⟩) hJ hJ0 trivial (fun _ _ => id) (fun _ _ => id) ?_ fun D C h' tk m' ys vs pv a1 a2 a3 a4 a5 a6 a7 a8 a9 a10 a11 _ a12 => hRR D C h' tk m' ys vs pv a1 a2 a3 a4 a5 a6 a7 a8 a9 a10 a11 a12
  intro C pv vs ys v s₃ m cm E' h1 h2 h3 h4 h5 _ h6 h7 h8 h9 h10 h11
  refine wpAny_mono (turn C pv vs ys v s₃ m cm E' h1 h2 h3 h4 h5 h6 h7 h8 h9 h10 h11) (fun ok s₄ q => ?_) fun _ _ e => e
  obtain ⟨h₄, t₄, e, k, j⟩ := q
  refine ⟨h₄, t₄, e, k, trivial, ?_⟩
  split at j
  · rename_i hok
    rw [if_pos hok]
    exact wpAny_mono j (fun y s₅ ⟨h₅, t₅, e, k, j⟩ => ⟨h₅, t₅, e, k, trivial, j⟩) fun _ _ e => e
  · rename_i hok
    rw [if_neg hok]
    exact j
end
end

section
open PySem PySem.W PySem.Calls PyProof.Rows
variable [Lo]

section
variable {w : World} {A : Around} {E : Value → Shared → Prop} {env : Env} {s : Shared}

theorem kp_sb {h₁ h h' : Heap} {C : Addr} (k : Kp h₁ h) (hs : Heap.SameBut C h h') (hC : h₁.get? C = none) : Kp h₁ h' :=
  ⟨fun b o e nf => hs.extBut b o (nn (hC) e) (k.off b o e nf), fun b o e => by
    obtain ⟨sl, e1⟩ := k.on b o e
    exact ⟨sl, hs.extBut b _ (nn (hC) e) e1⟩⟩

/-- what a list comprehension has to bring -/
inductive LcOk (w : World) (A : Around) (env : Env) (scope : Scope) (cl : List (Str × Addr)) (cmo : Str → Option Value) (x : Str) (ifs : List Expr) (elt : Expr) (J : (Addr → Prop) → Heap → List Value → List Value → Prop) (Q : Value → Shared → Prop) (xv : Value) (s₁ : Shared) : Prop
  | mk (old : List Addr) (n : Nat) (P : Nat → Value → Prop) (S : Src w A xv s₁ old n P) (sz : n ≤ sizeLine) (cells : ∀ n c, cl.lookup n = some c → s₁.heap.IsCell c (cmo n)) (turn : Turn w A env scope cl cmo x ifs elt n P J s₁)
    (fin : ∀ D h' t' (ys vs : List Value) pv, s₁.heap.get? D = none → Kp s₁.heap h' → h'.PlainList D ys.toArray → vs.length = n → (∀ j v, vs[j]? = some v → P j v) → J pv h' vs ys → pv D → (∀ b, pv b → s₁.heap.get? b = none) → Q (.ref D) { s₁ with heap := h', toks := t' }) : LcOk w A env scope cl cmo x ifs elt J Q xv s₁
/-- the same, its value put into a local at once -/
inductive LcTo (h₀ : Heap) (y : Str) (w : World) (A : Around) (env : Env) (scope : Scope) (cl : List (Str × Addr)) (cmo : Str → Option Value) (x : Str) (ifs : List Expr) (elt : Expr) (J : (Addr → Prop) → Heap → List Value → List Value → Prop) (Q : Flow → Shared → Prop) (xv : Value) (s₁ : Shared) : Prop
  | mk (old : List Addr) (n : Nat) (P : Nat → Value → Prop) (m cm : Str → Option Value) (X : Bd h₀ env m cm s₁.heap) (S : Src w A xv s₁ old n P) (sz : n ≤ sizeLine) (cells : ∀ n c, cl.lookup n = some c → s₁.heap.IsCell c (cmo n)) (turn : Turn w A env scope cl cmo x ifs elt n P J s₁)
    (fin : ∀ D h' t' (ys vs : List Value) pv, s₁.heap.get? D = none → Bd h₀ env (upd m y (.ref D)) cm h' → Ko s₁.heap h' → h'.PlainList D ys.toArray → vs.length = n → (∀ j v, vs[j]? = some v → P j v) → J pv h' vs ys → pv D → (∀ b, pv b → s₁.heap.get? b = none) →
      Q .next { s₁ with heap := h', toks := t' }) : LcTo h₀ y w A env scope cl cmo x ifs elt J Q xv s₁
/-- a list comprehension as an expression -/
theorem lc {elt iter : Expr} {x : Str} {px : Pos} {ifs : List Expr} {scope : Scope} {pos : Pos} {cl : List (Str × Addr)} {Q : Value → Shared → Prop} {cmo : Str → Option Value}
    (J : (Addr → Prop) → Heap → List Value → List Value → Prop)
    (hclos : closureFor scope env = pure cl) (hkind : scope.kind = .function) (hnames : ∀ y ∈ scope.names, y.2 = .local → scope.names.lookup y.1 = some .local)
    (hx : (scope.names.lookup x = some .local ∧ ∀ C : Addr, (cellsFrom (C + 1) scope.names []).lookup x = none) ∨ (scope.names.lookup x ≠ some .local) ∧ ∀ C : Addr, (cenvOf scope cl C env).kindOf x = some .cell ∧ ∃ c, (cellsFrom (C + 1) scope.names []).lookup x = some c)
    (hJ : ∀ pv h h' vs ys, (∀ b o, ¬ pv b → h.get? b = some o → o.cls ≠ .type "frame" → h'.get? b = some o) → J pv h vs ys → J pv h' vs ys) (hJ0 : ∀ pv h, J pv h [] [])
    (h : wpAny (model PW w) A (eval iter env) (LcOk w A env scope cl cmo x ifs elt J Q) E s)
    (hs : ∀ x, foldedSetIterable iter env x = pure x := by intro _; rfl) :
    wpAny (model PW w) A (eval (.ListComp elt [⟨.Name x px, iter, ifs, 0⟩] scope pos) env) Q E s := by
  rw [eval_ListComp]
  refine wpAny_comprehension_free (use := none) rfl hs hclos hkind hnames (wpAny_mono h (fun xv s₁ h₁ => ?_) fun _ _ e => e)
  obtain ⟨old, n, P, S, hsz, hcl, turn, hQ⟩ := h₁
  refine S.it _ _ fun o St W hst hof hlive => ?_
  refine comp_core (RR := fun acc C => compPost (model PW w) A E none Q acc C) W hst hof hlive S.old hsz hkind hx hcl hJ hJ0 turn ?_
  intro D C h' tk m' ys vs pv hD hC hDC pD pC hn hl hlen hP hJv hk hpv
  exact ⟨m', hn, fun h'' hs'' => hQ D h'' tk ys vs pv hD (kp_sb hk hs'' hC) (hl.extBut hs''.extBut hDC) hlen hP (hJ _ _ _ _ _ (fun b o np e _ => hs''.extBut b o (fun q => np (q ▸ pC)) e) hJv) pD hpv⟩

/-- a list comprehension whose value goes to a local of a def at once -/
theorem lc_to {h₀ : Heap} {elt iter : Expr} {x y : Str} {px py : Pos} {ifs : List Expr} {scope : Scope} {pos spos : Pos} {cl : List (Str × Addr)} {Q : Flow → Shared → Prop} {cmo : Str → Option Value}
    (J : (Addr → Prop) → Heap → List Value → List Value → Prop)
    (hsw : swapsWith (.ListComp elt [⟨.Name x px, iter, ifs, 0⟩] scope pos) (some (.Name y py)) spos.line env = pure true)
    (hclos : closureFor scope env = pure cl) (hkind : scope.kind = .function) (hnames : ∀ y ∈ scope.names, y.2 = .local → scope.names.lookup y.1 = some .local)
    (hx : (scope.names.lookup x = some .local ∧ ∀ C : Addr, (cellsFrom (C + 1) scope.names []).lookup x = none) ∨ (scope.names.lookup x ≠ some .local) ∧ ∀ C : Addr, (cenvOf scope cl C env).kindOf x = some .cell ∧ ∃ c, (cellsFrom (C + 1) scope.names []).lookup x = some c)
    (hJ : ∀ pv h h' vs ys, (∀ b o, ¬ pv b → h.get? b = some o → o.cls ≠ .type "frame" → h'.get? b = some o) → J pv h vs ys → J pv h' vs ys) (hJ0 : ∀ pv h, J pv h [] [])
    (hy : env.kindOf y = some .local) (hp : (env.scope.kind == .class || (env.scope.kind == .module && env.locals != env.globals)) = false)
    (h : wpAny (model PW w) A (eval iter env) (LcTo h₀ y w A env scope cl cmo x ifs elt J Q) E s)
    (hs : ∀ x, foldedSetIterable iter env x = pure x := by intro _; rfl) :
    wpAny (model PW w) A (exec (.Assign [.Name y py] (.ListComp elt [⟨.Name x px, iter, ifs, 0⟩] scope pos) spos) env) Q E s := by
  rw [exec_Assign_Name_used _ _ _ _ hsw]
  refine wpAny_bind (wpAny_standAt (wpAny_bind ?_))
  show wpAny _ A (do let _ ← comprehension (.ListComp elt [⟨.Name x px, iter, ifs, 0⟩] scope pos) scope env _ (newList []) false (eval iter env) (some (assign (.Name y py) env))) _ _ s
  refine wpAny_bind (wpAny_mono (wpAny_comprehension_free (use := some (assign (.Name y py) env)) (Q := fun _ s' => Q .next s') rfl hs hclos hkind hnames
    (wpAny_mono h (fun xv s₁ h₁ => ?_) fun _ _ e => e)) (fun _ s' hq => wpAny_pure (wpAny_pure hq)) fun _ _ e => e)
  obtain ⟨old, n, P, m, cm, X, S, hsz, hcl, turn, hQ⟩ := h₁
  refine S.it _ _ fun o St W hst hof hlive => ?_
  refine comp_core (RR := fun acc C => compPost (model PW w) A E (some (assign (.Name y py) env)) (fun _ s' => Q .next s') acc C) W hst hof hlive S.old hsz hkind hx hcl hJ hJ0 turn ?_
  intro D C h' tk m' ys vs pv hD hC hDC pD pC hn hl hlen hP hJv hk hpv
  show wpAny _ A (assign (.Name y py) env (.ref D)) _ _ _
  have hLC : env.locals ≠ C := by obtain ⟨o, e, _⟩ := X.fc; rintro rfl; rw [hC] at e; cases e
  have hLD : env.locals ≠ D := by obtain ⟨o, e, _⟩ := X.fc; rintro rfl; rw [hD] at e; cases e
  refine wpAny_assign_Name (st_loc' (X.kp hk) (fun h₂ X₂ k₂ hs₂ => ?_) hy hp)
  refine ⟨m', hn.sameBut hs₂ (Ne.symm hLC), fun h₃ hs₃ => ?_⟩
  have pvL : ¬ pv env.locals := fun q => by obtain ⟨o, e, _⟩ := X.fc; rw [hpv _ q] at e; cases e
  have kC : ∀ b o, b ≠ C → h₂.get? b = some o → h₃.get? b = some o := fun b o hb e => hs₃.extBut b o hb e
  have off : ∀ b o, b ≠ env.locals → b ≠ C → h'.get? b = some o → h₃.get? b = some o := fun b o h1 h2 e => kC b o h2 (hs₂.extBut b o h1 e)
  refine hQ D h₃ _ ys vs pv hD ⟨⟨X₂.ev.ns.sameBut hs₃ hLC, fun n c e => (X₂.ev.cell n c e).sameBut hs₃ ?_⟩, ?_, X₂.apart, fun n c e => ?_, ⟨fun b o e nf => ?_, fun b o e => ?_⟩, X₂.nl, X₂.nc, X₂.lo⟩ (fun b o e n1 n2 => ?_)
    (hl.at fun o e => off _ _ (Ne.symm hLD) hDC e) hlen hP (hJ _ _ _ _ _ (fun b o np e nf => off b o (fun q => ?_) (fun q => np (q ▸ pC)) e) hJv) pD hpv
  · rintro rfl
    obtain ⟨o, e1, _⟩ := X.cc n c (mem_of_lookup e)
    rw [hC] at e1; cases e1
  · obtain ⟨o, e, c⟩ := X₂.fc
    exact ⟨o, kC _ _ hLC e, c⟩
  · obtain ⟨o, e1, c1⟩ := X₂.cc n c e
    refine ⟨o, kC _ _ ?_ e1, c1⟩
    rintro rfl
    obtain ⟨o, e1, _⟩ := X.cc n c e
    rw [hC] at e1; cases e1
  · exact kC b o (fun q => by subst q; have := X.keep.off b o e nf; rw [hC] at this; cases this) (X₂.keep.off b o e nf)
  · obtain ⟨sl, e1⟩ := X₂.keep.on b o e
    exact ⟨sl, kC b _ (fun q => by subst q; obtain ⟨sl', e2⟩ := X.keep.on b o e; rw [hC] at e2; cases e2) e1⟩
  · exact off b o (fun q => by subst q; obtain ⟨o', e', c'⟩ := X.fc; rw [e] at e'; cases e'; exact n1 c') (nn (hC) e) (hk.off b o e n1)
  · subst q
    obtain ⟨o', e', c'⟩ := (X.kp hk).fc
    rw [e] at e'; cases e'; exact nf c'
end
end

section
open PySem PySem.W PySem.Calls PyProof.Rows
variable [Lo]

section
variable {w : World} {A : Around} {E : Value → Shared → Prop} {env : Env} {s : Shared}

/-- how a name of the block is bound -/
structure Binds (env : Env) (x : Str) (bm : (Str → Option Value) → Value → Str → Option Value) (bc : (Str → Option Value) → Value → Str → Option Value) : Prop where
  st : ∀ {h₀ : Heap} {m cm : Str → Option Value} {M : Model} {A : Around} {E : Value → Shared → Prop} {s : Shared} {v : Value} {Q : Unit → Shared → Prop}, Bd h₀ env m cm s.heap →
    (∀ h' t', Bd h₀ env (bm m v) (bc cm v) h' → Ko s.heap h' → Q () { s with heap := h', toks := t' }) → wpAny M A (storeName env x v) Q E s
theorem binds_loc {x : Str} (hl : env.kindOf x = some .local) (hp : (env.scope.kind == .class || (env.scope.kind == .module && env.locals != env.globals)) = false) :
    Binds env x (fun m v => upd m x v) (fun cm _ => cm) := ⟨fun X h => st_loc X (fun h' a b => h h' _ a b) hl hp⟩
theorem binds_cell {x : Str} (hk : env.scope.kind = .function) (hl : env.kindOf x = some .cell) (hc : ∃ c, env.cells.lookup x = some c) :
    Binds env x (fun m _ => m) (fun cm v => upd cm x v) := ⟨fun X h => st_cell X (fun h' a b => h h' _ a b) hk hl hc⟩

omit [Lo] in
/-- kept but for the frame's own names and the addresses Z -/
def Kz (Z : List Addr) (h h' : Heap) : Prop := ∀ b o, b ∉ Z → h.get? b = some o → o.cls ≠ .type "frame" → o.cls ≠ .type "cell" → h'.get? b = some o
omit [Lo] in
theorem Ko.z {h h' : Heap} (k : Ko h h') (Z : List Addr) : Kz Z h h' := fun b o _ e n m => k b o e n m
omit [Lo] in
theorem Kz.trans {Z : List Addr} {a b c : Heap} (x : Kz Z a b) (y : Kz Z b c) : Kz Z a c := fun d o z e n m => y d o z (x d o z e n m) n m
omit [Lo] in
theorem Kz.ko {h h' : Heap} (k : Kz [] h h') : Ko h h' := fun b o e n m => k b o (fun q => nomatch q) e n m

/-- a step that changes one object that the base does not know, and no frame or cell -/
theorem Bd.bit {h₀ : Heap} {m cm : Str → Option Value} {h h' : Heap} {I : Addr} (X : Bd h₀ env m cm h) (hI : ∃ o, h.get? I = some o ∧ o.cls ≠ .type "frame" ∧ o.cls ≠ .type "cell") (n : h₀.get? I = none) (off : ∀ b o, b ≠ I → h.get? b = some o → h'.get? b = some o) : Bd h₀ env m cm h' := by
  obtain ⟨oI, eI, n1, n2⟩ := hI
  have hLI : env.locals ≠ I := fun q => by obtain ⟨o, e, c⟩ := X.fc; rw [q, eI] at e; cases e; exact n1 c
  have hcI : ∀ y c, (y, c) ∈ env.cells → c ≠ I := fun y c hm q => by obtain ⟨o, e, c'⟩ := X.cc y c hm; rw [q, eI] at e; cases e; exact n2 c'
  exact ⟨⟨X.ev.ns.at' fun o e => off _ o hLI e, fun y c e => let ⟨o, e1, d⟩ := X.ev.cell y c e; ⟨o, off c o (hcI y c (mem_of_lookup e)) e1, d⟩⟩, let ⟨o, e, c⟩ := X.fc; ⟨o, off _ o hLI e, c⟩, X.apart,
    fun y c hm => let ⟨o, e, c'⟩ := X.cc y c hm; ⟨o, off c o (hcI y c hm) e, c'⟩, kp_ext X.keep n fun b hb o e => off b o hb e, X.nl, X.nc, X.lo⟩
/-- how a turn of a for ends -/
inductive TEnd (h₀ : Heap) (env : Env) (s₂ : Shared) (K : Heap → Prop) (J : (Str → Option Value) → (Str → Option Value) → Heap → Prop) (s₃ : Shared) : Prop
  | mk (h₃ : Heap) (t₃ : Nat) (m₂ cm₂ : Str → Option Value) (e : s₃ = { s₂ with heap := h₃, toks := t₃ }) (x : Bd h₀ env m₂ cm₂ h₃) (z : K h₃) (j : J m₂ cm₂ h₃) : TEnd h₀ env s₂ K J s₃
/-- what a for has to bring -/
inductive ForOk (h₀ : Heap) (w : World) (A : Around) (env : Env) (body : List Stmt) (bm bc : (Str → Option Value) → Value → Str → Option Value) (Q : Flow → Shared → Prop) (xv : Value) (s₁ : Shared) : Prop
  | mk (old : List Addr) (n : Nat) (P : Nat → Value → Prop) (m cm : Str → Option Value) (Z : List Addr) (J : Addr → Nat → (Str → Option Value) → (Str → Option Value) → Heap → Prop) (X : Bd h₀ env m cm s₁.heap) (S : Src w A xv s₁ old n P) (hZ : ∀ z ∈ Z, z ∉ old ∧ ∃ o, s₁.heap.get? z = some o)
    (hJ : ∀ I i m cm h h', (∀ b o, b ≠ I → h.get? b = some o → o.cls ≠ .type "frame" → o.cls ≠ .type "cell" → h'.get? b = some o) → J I i m cm h → J I i m cm h') (J0 : J s₁.heap.objs.size 0 m cm s₁.heap)
    (turn : ∀ I i v m₁ cm₁ s₂ E', i < n → P i v → s₁.heap.get? I = none → (∃ o, s₂.heap.get? I = some o ∧ o.cls ≠ .type "frame" ∧ o.cls ≠ .type "cell") → Bd h₀ env (bm m₁ v) (bc cm₁ v) s₂.heap → Kz Z s₁.heap s₂.heap → J I i m₁ cm₁ s₂.heap →
        wpAny (model PW w) A (execs body env) (fun f s₃ => match f with
          | .next | .cont => TEnd h₀ env s₂ (Kz Z s₂.heap) (J I (i + 1)) s₃
          | .brk => Q .next s₃
          | .ret v => Q (.ret v) s₃) E' s₂)
    (fin : ∀ I m₁ cm₁ h' t', s₁.heap.get? I = none → Bd h₀ env m₁ cm₁ h' → Kz Z s₁.heap h' → J I n m₁ cm₁ h' → Q .next { s₁ with heap := h', toks := t' }) : ForOk h₀ w A env body bm bc Q xv s₁
/-- what holds between the turns of a for -/
inductive FInv (h₀ : Heap) (env : Env) (s₁ : Shared) (n : Nat) (St : Nat → Heap → Prop) (K : Heap → Prop) (J : Nat → (Str → Option Value) → (Str → Option Value) → Heap → Prop) (k : Nat) (s' : Shared) : Prop
  | mk (i : Nat) (h' : Heap) (t' : Nat) (m₁ cm₁ : Str → Option Value) (e : s' = { s₁ with heap := h', toks := t' }) (le : i ≤ n) (hk : k = n + 1 - i) (st : St i h') (x : Bd h₀ env m₁ cm₁ h') (z : K h') (j : J i m₁ cm₁ h') : FInv h₀ env s₁ n St K J k s'
/-- a for over a source, with a word of what holds between the turns -/
theorem for_rule {h₀ : Heap} {x : Str} {px pos : Pos} {iter : Expr} {body : List Stmt} {Q : Flow → Shared → Prop} {bm bc : (Str → Option Value) → Value → Str → Option Value} (hb : Binds env x bm bc)
    (h : wpAny (model PW w) A (eval iter env) (ForOk h₀ w A env body bm bc Q) E s)
    (hs : ∀ x, foldedSetIterable iter env x = pure x := by intro _; rfl) :
    wpAny (model PW w) A (exec (.For (.Name x px) iter body [] pos) env) Q E s := by
  refine wpAny_For (wpAny_mono h (fun xv s₁ h₁ => ?_) fun _ _ e => e) hs
  obtain ⟨old, n, P, m, cm, Z, J, X, S, hZ, hJ, J0, turn, fin⟩ := h₁
  refine S.it _ _ fun o St W hst hof hlive => ?_
  generalize hI : s₁.heap.objs.size = I at *
  have hIn : s₁.heap.get? I = none := ge_none (by rw [hI]; exact Nat.le_refl _)
  have hIp : (s₁.heap.push o).get? I = some o := by rw [← hI]; exact Heap.get?_push_size _ hof
  refine codeAny_forLoop (FInv h₀ env s₁ n St (Kz Z s₁.heap) (J I)) ?_ (n + 1)
    ⟨0, _, _, m, cm, rfl, Nat.zero_le _, rfl, hst, X.push o, fun b o' _ e _ _ => Heap.get?_push_of_some _ e, hJ _ _ _ _ _ _ (fun b o' _ e _ _ => Heap.get?_push_of_some _ e) J0⟩
  rintro k s' ⟨i, H, t, m₁, cm₁, rfl, hi, rfl, hst', X', hz, hJi⟩
  have bdI : ∀ h₁, (∀ b o, b ∉ [I] → H.get? b = some o → h₁.get? b = some o) → Bd h₀ env m₁ cm₁ h₁ := fun h₁ hk => X'.bit (hlive _ _ hst') (X.keep.none hIn) fun b o hb e => hk b o (by simpa using hb) e
  have zI : ∀ h₁, (∀ b o, b ∉ [I] → H.get? b = some o → h₁.get? b = some o) → Kz Z s₁.heap h₁ := fun h₁ hk b o nz e n1 n2 =>
    hk b o (fun q => by rw [List.mem_singleton.mp q, hIn] at e; cases e) (hz b o nz e n1 n2)
  have jI : ∀ h₁, (∀ b o, b ∉ [I] → H.get? b = some o → h₁.get? b = some o) → J I i m₁ cm₁ h₁ := fun h₁ hk => hJ _ _ _ _ _ _ (fun b o hb e _ _ => hk b o (by simpa using hb) e) hJi
  by_cases hlt : i < n
  · refine W.item i _ _ _ hlt hst' fun v h₁ tk₁ hPv hst₁ hk₁ => ?_
    refine wpAny_assign_Name (hb.st (bdI h₁ hk₁) fun h₂ t₂ X₂ k₂ => ?_)
    have hz₂ : Kz Z s₁.heap h₂ := (zI h₁ hk₁).trans (k₂.z Z)
    have hst₂ : St (i + 1) h₂ := W.frame _ _ _ hst₁ fun b hb' o' e => by
      rcases List.mem_cons.mp hb' with q | hb'
      · subst b; obtain ⟨o2, e2, n1, n2⟩ := hlive _ _ hst₁; rw [e] at e2; cases e2; exact k₂ _ _ e n1 n2
      · obtain ⟨o2, e2, n1, n2⟩ := S.old b hb'
        have := zI h₁ hk₁ b o2 (fun q => (hZ b q).1 hb') e2 n1 n2
        rw [e] at this; cases this; exact k₂ _ _ e n1 n2
    refine wpAny_mono (turn I i v m₁ cm₁ _ _ hlt hPv hIn (hlive _ _ hst₂) X₂ hz₂ (hJ _ _ _ _ _ _ (fun b o _ e n1 n2 => k₂ b o e n1 n2) (jI h₁ hk₁))) (fun f s₃ h₃ => ?_) fun _ _ e => e
    have fin' : TEnd h₀ env { s₁ with heap := h₂, toks := t₂ } (Kz Z h₂) (J I (i + 1)) s₃ → ∃ k', k' < n + 1 - i ∧ FInv h₀ env s₁ n St (Kz Z s₁.heap) (J I) k' s₃ := by
      rintro ⟨H3, t3, m₂, cm₂, rfl, X₃, z₃, J₃⟩
      refine ⟨n + 1 - (i + 1), by (first | lia | omega), i + 1, H3, t3, m₂, cm₂, rfl, hlt, rfl, ?_, X₃, hz₂.trans z₃, J₃⟩
      refine W.frame _ _ _ hst₂ fun b hb' o' e => ?_
      rcases List.mem_cons.mp hb' with q | hb'
      · subst b; obtain ⟨o2, e2, n1, n2⟩ := hlive _ _ hst₂; rw [e] at e2; cases e2
        exact z₃ _ _ (fun q => by obtain ⟨_, o3, e3⟩ := hZ _ q; rw [hIn] at e3; cases e3) e n1 n2
      · obtain ⟨o2, e2, n1, n2⟩ := S.old b hb'
        have := hz₂ b o2 (fun q => (hZ b q).1 hb') e2 n1 n2
        rw [e] at this; cases this
        exact z₃ _ _ (fun q => (hZ b q).1 hb') e n1 n2
    cases f with
    | next => exact fin' h₃
    | cont => exact fin' h₃
    | brk => exact h₃
    | ret v => exact h₃
  · have hin : i = n := by (first | lia | omega)
    refine W.done _ _ _ (hin ▸ hst') fun h₁ tk₁ hk₁ => wpAny_execs_nil ?_
    exact fin I m₁ cm₁ h₁ tk₁ hIn (bdI h₁ hk₁) (zI h₁ hk₁) (hin ▸ jI h₁ hk₁)
end
end

section
open PySem PySem.W PySem.Calls PyProof.Rows
variable [Lo]

omit [Lo] in
/-- a def of the text, as the top leaves it -/
def FnOk (w : World) (a : Addr) (fd : FuncData) : Prop := ∃ oc od sl, (KF w.params).lookup a = some ⟨oc, od, .func fd, sl⟩
omit [Lo] in
abbrev Fn (w : World) (a : Addr) := { fd : FuncData // FnOk w a fd }
omit [Lo] in
abbrev envF {w : World} {a : Addr} (f : Fn w a) (L : Addr) : Env := callEnvC f.1 L a
omit [Lo] in
theorem cells_some (x : Str) : ∀ (names : List (Str × NameKind)) (n n' : Nat) (acc acc' : List (Str × Addr)), ((acc.lookup x).isSome = true → (acc'.lookup x).isSome = true) → ((cellsFrom n names acc).lookup x).isSome = true → ((cellsFrom n' names acc').lookup x).isSome = true := by
  intro names
  induction names with
  | nil => intro _ _ _ _ hh; exact hh
  | cons y r ih =>
    intro n n' acc acc' hh
    obtain ⟨yn, yk⟩ := y
    unfold cellsFrom
    split
    · refine ih _ _ _ _ ?_
      rw [List.lookup_cons, List.lookup_cons]
      cases x == yn
      · exact hh
      · exact fun _ => rfl
    · exact ih _ _ _ _ hh

section
variable {w : World} {A : Around} {E : Value → Shared → Prop} {s : Shared}
/-- a call of a def of the text: its arguments bound (perhaps with a new tuple), its body walked -/
theorem callG {a : Addr} (f : Fn w a) {body : List Stmt} {args : Args} {Q : Value → Shared → Prop} {d : Nat}
    (C : Cx w s.heap) (R : Rm A (d + 1) s.heap) (hcd : codeIn (KF w.params) f.1.code f.1.qualname = true) (hbody : f.1.body = .stmts body) (hclo : f.1.closure = [])
    (hco : f.1.scope.isCoroutine = false) (hgen : f.1.scope.isGenerator = false) (hk : f.1.scope.kind = .function)
    (hb : wpAny (model PW w) A.in1 (bindArgs f.1 args) (fun binds s₁ => Kp s.heap s₁.heap ∧ (∃ t₁, s₁ = { s with heap := s₁.heap, toks := t₁ }) ∧
      (binds.all fun x => f.1.scope.names.lookup x.1 == some .local || (f.1.scope.names.lookup x.1 == some .cell && ((cellsFrom 0 f.1.scope.names []).lookup x.1).isSome)) = true ∧
      ∀ h₁ t₁ E', Bd s₁.heap (envF f s₁.heap.objs.size) (bindL (envF f s₁.heap.objs.size).kindOf binds fun _ => none) (bindC (envF f s₁.heap.objs.size).kindOf binds fun _ => none) h₁ → Rm (A.deeper (envF f s₁.heap.objs.size)) d h₁ → Cx w h₁ →
        wpAny (model PW w) (A.deeper (envF f s₁.heap.objs.size)) (execs body (envF f s₁.heap.objs.size)) (fun f s' => Q (match f with | .ret v => v | _ => .none) s') E' { s with heap := h₁, toks := t₁ }) (fun _ _ => False) s) :
    wpAny (model PW w) A (call (.ref a) args.pos args.kw) Q E s := by
  obtain ⟨oc, od, sl, eo⟩ := f.2
  refine wpAny_call (enter C R.room (C.k _ _ eo) rfl (codeRec_of C.k hcd) hbody hclo (wpAny_mono hb (fun binds s₁ h₁ => ?_) fun _ _ e => e.elim) hco hgen hk)
  obtain ⟨k, ⟨t₁, es⟩, hkind, h⟩ := h₁
  refine ⟨k, fun x hx => ?_, fun h₁ t₁ X => ?_⟩
  · have q := List.all_eq_true.mp hkind x hx
    rcases Bool.or_eq_true_iff.mp q with q | q
    · exact .inl (beq_iff_eq.mp q)
    · obtain ⟨q1, q2⟩ := Bool.and_eq_true_iff.mp q
      exact .inr ⟨beq_iff_eq.mp q1, cells_some _ _ _ _ _ _ id q2⟩
  · rw [es]
    exact h h₁ t₁ _ X (((R.kp k).kp X.keep).deeper hk (X.frame rfl)) (C.up (k.trans X.keep))

/-- arguments by place alone -/
theorem callK {a : Addr} (f : Fn w a) {body : List Stmt} {vals : List Value} {Q : Value → Shared → Prop} {d : Nat} (binds : List (Str × Value)) (m cm : Str → Option Value)
    (C : Cx w s.heap) (R : Rm A (d + 1) s.heap) (hcd : codeIn (KF w.params) f.1.code f.1.qualname = true) (hbody : f.1.body = .stmts body) (hclo : f.1.closure = [])
    (hco : f.1.scope.isCoroutine = false) (hgen : f.1.scope.isGenerator = false) (hk : f.1.scope.kind = .function)
    (hbind : bindArgs f.1 ⟨vals, []⟩ = pure binds) (hm : ∀ L, bindL (envF f L).kindOf binds (fun _ => none) = m) (hcm : ∀ L, bindC (envF f L).kindOf binds (fun _ => none) = cm)
    (hkind : (binds.all fun x => f.1.scope.names.lookup x.1 == some .local || (f.1.scope.names.lookup x.1 == some .cell && ((cellsFrom 0 f.1.scope.names []).lookup x.1).isSome)) = true)
    (h : ∀ L h₁ t₁ E', Bd s.heap (envF f L) m cm h₁ → Rm (A.deeper (envF f L)) d h₁ → Cx w h₁ →
        wpAny (model PW w) (A.deeper (envF f L)) (execs body (envF f L)) (fun f s' => Q (match f with | .ret v => v | _ => .none) s') E' { s with heap := h₁, toks := t₁ }) :
    wpAny (model PW w) A (call (.ref a) vals) Q E s := by
  refine callG f (args := ⟨vals, []⟩) C R hcd hbody hclo hco hgen hk ?_
  rw [hbind]
  refine wpAny_pure ⟨Kp.refl _, ⟨s.toks, rfl⟩, hkind, fun h₁ t₁ E' X R' C' => ?_⟩
  rw [hm, hcm] at X
  exact h _ h₁ t₁ E' X R' C'
end

omit [Lo] in
/-- texts by their signs -/
def S (l : List Nat) : Str := ⟨l.toArray⟩
omit [Lo] in
def SV : List Value → List (List Nat) → Prop := Paired fun v l => ∃ t, v = .str (S l) t
omit [Lo] in
def WL (h : Heap) (a : Addr) (ws : List (List Nat)) : Prop := ∃ vs : List Value, h.PlainList a vs.toArray ∧ SV vs ws
omit [Lo] in
theorem S_app (a b : List Nat) : S a ++ S b = S (a ++ b) := Str.ext' (by show (S a).cps ++ (S b).cps = _; simp [S])
omit [Lo] in
theorem S_len (a : List Nat) : (S a).length = a.length := by simp [S, Str.length]
omit [Lo] in
theorem S_inj {a b : List Nat} (h : S a = S b) : a = b := by
  have := congrArg (fun x => x.cps.toList) h
  simpa [S] using this
omit [Lo] in
theorem S_of (x : Str) : S x.cps.toList = x := Str.ext' (by simp [S])
omit [Lo] in
theorem S_beq (a b : List Nat) : (S a == S b) = (a == b) := by
  rw [Bool.eq_iff_iff, beq_iff_eq, beq_iff_eq]
  exact ⟨S_inj, fun h => h ▸ rfl⟩
omit [Lo] in
theorem SV.length {vs : List Value} {ws : List (List Nat)} (h : SV vs ws) : vs.length = ws.length := Paired.length h
omit [Lo] in
theorem SV.nil : SV [] [] := Paired.nil
omit [Lo] in
theorem SV.snoc {vs : List Value} {ws : List (List Nat)} {l : List Nat} {t : Tok} (h : SV vs ws) : SV (vs ++ [.str (S l) t]) (ws ++ [l]) := Paired.snoc h ⟨t, rfl⟩
omit [Lo] in
theorem SV.get {vs : List Value} {ws : List (List Nat)} (h : SV vs ws) : ∀ {i : Nat} {v : Value}, vs[i]? = some v → ∃ l t, ws[i]? = some l ∧ v = .str (S l) t := by
  induction h with
  | nil => intro i v e; simp at e
  | cons q _ ih =>
    intro i v e
    cases i with
    | zero => obtain ⟨t, rfl⟩ := q; simp at e; subst e; exact ⟨_, t, rfl, rfl⟩
    | succ i => simpa using ih (by simpa using e)
omit [Lo] in
theorem SV.at {vs : List Value} {ws : List (List Nat)} (h : SV vs ws) : ∀ {i : Nat} {l : List Nat}, ws[i]? = some l → ∃ t, vs[i]? = some (.str (S l) t) := by
  induction h with
  | nil => intro i v e; simp at e
  | cons q _ ih =>
    intro i v e
    cases i with
    | zero => obtain ⟨t, rfl⟩ := q; simp at e; subst e; exact ⟨t, rfl⟩
    | succ i => simpa using ih (by simpa using e)
omit [Lo] in
theorem SV.vals {vs : List Value} {ws : List (List Nat)} (h : SV vs ws) : ∃ l : List (Str × Tok), strValues l = vs ∧ l.map (·.1) = ws.map S := by
  induction h with
  | nil => exact ⟨[], rfl, rfl⟩
  | cons q _ ih =>
    obtain ⟨t, rfl⟩ := q
    obtain ⟨l, e1, e2⟩ := ih
    exact ⟨(S _, t) :: l, by show Value.str _ t :: strValues l = _; rw [e1], by simp [e2]⟩
omit [Lo] in
theorem take_snoc {α : Type} {l : List α} {k : Nat} {a : α} (h : l[k]? = some a) : l.take (k + 1) = l.take k ++ [a] := by
  rw [List.take_add_one, h]; rfl
omit [Lo] in
theorem join_flat (ws : List (List Nat)) : Txt.join (S []) (ws.map S) = S ws.flatten := by
  show Builtin.Str.glued _ _ = _
  rw [StrLaws.glued_eq_join]
  induction ws with
  | nil => exact Str.ext' rfl
  | cons a r ih =>
    cases r with
    | nil => show S a = _; simp
    | cons b r' =>
      show S a ++ S [] ++ Str.join (S []) ((b :: r').map S) = _
      rw [ih, S_app, S_app]; simp
omit [Lo] in
theorem join_ok (ws : List (List Nat)) (h : ws.flatten.length ≤ 100000) : JoinOk (S []) (ws.map S) = true := by
  unfold JoinOk
  rw [StrLaws.joinTotal]
  have e1 : ((ws.map S).map (fun x : Str => x.length)).sum = ws.flatten.length := by
    rw [List.map_map, List.length_flatten]
    exact congrArg List.sum (List.map_congr_left fun a _ => S_len a)
  rw [e1]
  have : sizeLine = 16777216 := by decide
  simp only [Builtin.Str.tooLong, this, S_len, List.length_nil, Nat.mul_zero, Nat.add_zero]
  simp only [Bool.not_eq_true', decide_eq_false_iff_not]
  (first | lia | omega)

section
variable {w : World} {A : Around} {E : Value → Shared → Prop} {s : Shared}
theorem new_list {vs : List Value} {Q : Value → Shared → Prop} (h : ∀ l h', l = s.heap.objs.size → Kp s.heap h' → s.heap.get? l = none → h'.PlainList l vs.toArray → Q (.ref l) { s with heap := h' }) (hsz : vs.length ≤ sizeLine := by size_fits) :
    wpAny (model PW w) A (newList vs) Q E s :=
  wpAny_newObj_type (h _ _ rfl (Kp.push _ _) (size_none _) ⟨0, Heap.get?_push_size _ rfl⟩) (by show vs.toArray.size ≤ sizeLine; rw [List.size_toArray]; exact hsz)
theorem pl_kp {h h' : Heap} {a : Addr} {vs : Array Value} (x : h.PlainList a vs) (k : Kp h h') : h'.PlainList a vs := let ⟨n, e⟩ := x; ⟨n, k.off _ _ e (cn _ _ (by decide))⟩
omit [Lo] in
theorem pl_ko {h h' : Heap} {a : Addr} {vs : Array Value} (x : h.PlainList a vs) (k : Ko h h') : h'.PlainList a vs := let ⟨n, e⟩ := x; ⟨n, k _ _ e (cn _ _ (by decide)) (cn _ _ (by decide))⟩
theorem WL.kp {h h' : Heap} {a : Addr} {ws : List (List Nat)} (x : WL h a ws) (k : Kp h h') : WL h' a ws := let ⟨vs, p, q⟩ := x; ⟨vs, pl_kp p k, q⟩
omit [Lo] in
theorem WL.ko {h h' : Heap} {a : Addr} {ws : List (List Nat)} (x : WL h a ws) (k : Ko h h') : WL h' a ws := let ⟨vs, p, q⟩ := x; ⟨vs, pl_ko p k, q⟩
omit [Lo] in
/-- an item of a list -/
theorem sub_list {value slice : Expr} {a : Addr} {vs : List Value} {k : Int} {u : Tok} {v : Value} {Q : Value → Shared → Prop} (hl : s.heap.PlainList a vs.toArray) (h0 : 0 ≤ k) (hx : vs[k.toNat]? = some v) (h : Q v s) (hk : k < 2 ^ 63 := by (first | lia | omega))
    (hs : subscripted slice false (.ref a) (.int k u) = operate [.ref a, .int k u] (getItem (.ref a) (.int k u)) := by rfl) : wpAny (model PW w) A (subscriptTail value slice (.ref a) (.int k u)) Q E s :=
  tail_any hl.isList.typeIs F.slot_list_getitem.lookup (wpAny_getItem_list hl.isList h0 hk (by simpa using hx) h) hs
end

omit [Lo] in
theorem one_eq {c n : Nat} {x : String} (h : Str.ofString x = S [n]) : ((⟨#[c]⟩ : Str) == Str.ofString x) = decide (c = n) := by
  rw [h, show (⟨#[c]⟩ : Str) = S [c] from rfl, S_beq, Bool.eq_iff_iff, beq_iff_eq, decide_eq_true_iff]
  simp
omit [Lo] in
theorem o_a : Str.ofString "a" = S [97] := by decide +kernel
omit [Lo] in
theorem o_st : Str.ofString "*" = S [42] := by decide +kernel
omit [Lo] in
theorem o_br : Str.ofString "[" = S [91] := by decide +kernel
omit [Lo] in
theorem o_rb : Str.ofString "]" = S [93] := by decide +kernel
omit [Lo] in
theorem o_nil : Str.ofString "" = S [] := by decide +kernel
omit [Lo] in
theorem SV.snoc' {vs : List Value} {ws : List (List Nat)} {x : Str} {t : Tok} {l : List Nat} (h : SV vs ws) (e : x = S l) : SV (vs ++ [.str x t]) (ws ++ [l]) := e ▸ h.snoc
omit [Lo] in
theorem sizeLine_is : sizeLine = 16777216 := by decide


section
variable {M : Model} {A : Around} {E : Value → Shared → Prop} {s : Shared} {env : Env}
omit [Lo] in
/-- a statement ahead of others, what comes behind it hidden -/
theorem ex_cons {st : Stmt} {rest : List Stmt} {Q : Flow → Shared → Prop} (h : ∀ P : Flow → Shared → Prop, (∀ s', wpAny M A (execs rest env) Q E s' → P .next s') → (∀ f s', f ≠ .next → Q f s' → P f s') → wpAny M A (exec st env) P E s) :
    wpAny M A (execs (st :: rest) env) Q E s :=
  wpAny_execs_cons (h _ (fun _ z => z) fun f s' n z => by cases f with | next => exact absurd rfl n | _ => exact z)
omit [Lo] in
theorem leaf_next {P : Flow → Shared → Prop} {s' : Shared} {R : Shared → Prop} (h : ∀ s', R s' → P .next s') (r : R s') : P .next s' := h _ r
omit [Lo] in
theorem leaf_ret {P Q : Flow → Shared → Prop} {s' : Shared} {v : Value} (h : ∀ f s', f ≠ .next → Q f s' → P f s') (r : Q (.ret v) s') : P (.ret v) s' := h _ _ (fun q => nomatch q) r
omit [Lo] in
theorem leaf_brk {P Q : Flow → Shared → Prop} {s' : Shared} (h : ∀ f s', f ≠ .next → Q f s' → P f s') (r : Q .brk s') : P .brk s' := h _ _ (fun q => nomatch q) r
omit [Lo] in
theorem leaf_cont {P Q : Flow → Shared → Prop} {s' : Shared} (h : ∀ f s', f ≠ .next → Q f s' → P f s') (r : Q .cont s') : P .cont s' := h _ _ (fun q => nomatch q) r
omit [Lo] in
theorem leaf_q {α : Type} {P Q : α → Shared → Prop} {a : α} {s' : Shared} (h : ∀ a s', Q a s' → P a s') (r : Q a s') : P a s' := h _ _ r
omit [Lo] in
theorem pif_t {c : Prop} [Decidable c] {a b : Prop} (hc : c) (h : a) : if c then a else b := by rw [if_pos hc]; exact h
omit [Lo] in
theorem pif_f {c : Prop} [Decidable c] {a b : Prop} (hc : ¬ c) (h : b) : if c then a else b := by rw [if_neg hc]; exact h
omit [Lo] in
theorem wif_t {α : Type} {c : Prop} [Decidable c] {a b : Sem α} {Q : α → Shared → Prop} (hc : c) (h : wpAny M A a Q E s) : wpAny M A (if c then a else b) Q E s := by rw [if_pos hc]; exact h
omit [Lo] in
theorem wif_f {α : Type} {c : Prop} [Decidable c] {a b : Sem α} {Q : α → Shared → Prop} (hc : ¬ c) (h : wpAny M A b Q E s) : wpAny M A (if c then a else b) Q E s := by rw [if_neg hc]; exact h
omit [Lo] in
/-- what is asked, hidden -/
theorem cutQ {α : Type} {E : Value → Shared → Prop} {t : Sem α} {Q : α → Shared → Prop} (h : ∀ P : α → Shared → Prop, (∀ a s', Q a s' → P a s') → wpAny M A t P E s) : wpAny M A t Q E s := h Q fun _ _ q => q
end
end

open PySem PySem.W PySem.Calls PyProof.Rows
/-- the steps that need no word -/
local macro_rules | `(tactic| ktr_unf) => `(tactic| repeat ((with_reducible (first
    | refine ex_cons fun P hn hf => ?_
    | refine leaf_next (by assumption) ?_
    | refine leaf_ret (by assumption) ?_
    | refine leaf_brk (by assumption) ?_
    | refine leaf_cont (by assumption) ?_
    | refine leaf_q (by assumption) ?_
    | refine wpAny_execs_nil ?_
    | refine wpAny_Return_some ?_
    | refine wpAny_If ?_
    | refine wpAny_BinOp ?_
    | refine IfExp_ ?_
    | refine wpAny_Slice ?_
    | refine evalPart_none_step ?_
    | refine evalPart_some_step ?_
    | refine wpAny_tests_one ?_
    | refine BoolOp_and ?_
    | refine BoolOp_or ?_
    | refine Subscript_ ?_
    | refine List_ ?_
    | refine Tuple_ ?_
    | refine UnaryOp_ ?_
    | refine isTrue_and_nil ?_
    | refine isTrue_and ?_
    | refine isTrue_or_nil ?_
    | refine isTrue_or ?_
    | refine isTrue_not ?_
    | refine Constant_str ?_
    | refine wpAny_Constant_int ?_
    | refine wpAny_Constant_none ?_
    | refine wpAny_Constant_bool ?_
    | refine wpAny_truthy_bool ?_
    | refine PyProof.Rows.eq_str ?_
    | refine ne_str ?_
    | refine PyProof.Rows.lt_int ?_
    | refine ge_int ?_
    | refine gt_int ?_
    | refine eq_int ?_
    | refine ne_int ?_
    | refine add_int ?_
    | refine GM.join ?_
    | refine wpAny_isTrue_Compare1 ?_ (by with_unfolding_all rfl)
    | refine wpAny_Compare1 ?_ (by with_unfolding_all rfl)
    | refine MethodCall_ ?_ (by with_unfolding_all rfl)
    | refine Call_ ?_ (by with_unfolding_all rfl)
    | refine wpAny_Assign_Name ?_ (by with_unfolding_all rfl)
    | refine spliced_more ?_ (by with_unfolding_all rfl)
    | refine spliced_none ?_
    | refine PyProof.Rows.callWith_builtin1 ?_ (by with_unfolding_all rfl) (by with_unfolding_all rfl)
    | refine callWith_method1 ?_ (by with_unfolding_all rfl) (by with_unfolding_all rfl)
    | refine callWith_method0 ?_
    | refine PyProof.Rows.callWith_type1 ?_ (by with_unfolding_all rfl) (by with_unfolding_all rfl)
    | refine wpAny_pure ?_)) <;> (try dsimp only)))

section
open PySem PySem.W PySem.Calls PyProof.Rows
variable [Lo]

--END
omit [Lo] in
/-- _law_pattern -/
def sgn (c : Nat) : List Nat := if c = 97 then [97] else [91, c, 93]
omit [Lo] in
def patS (w : List Nat) (k : Int) : List Nat := (if k = 0 then [] else [42]) ++ w.flatMap sgn ++ (if k = 1 then [] else [42])

omit [Lo] in
theorem flat_sgn (wd : List Nat) : (wd.flatMap sgn).length ≤ 3 * wd.length := by
  induction wd with
  | nil => simp
  | cons c r ih =>
    simp only [List.flatMap_cons, List.length_append, List.length_cons]
    have : (sgn c).length ≤ 3 := by unfold sgn; split <;> simp
    (first | lia | omega)
omit [Lo] in
noncomputable def f236 (w : World) : Fn w 236 := ⟨_, _, _, _, rfl⟩
set_option maxHeartbeats 4000000 in
theorem c_pattern {w : World} {A : Around} {E : Value → Shared → Prop} {s : Shared} {Q : Value → Shared → Prop} {d : Nat} (C : Cx w s.heap) (R : Rm A (d + 2) s.heap) {wd : List Nat} {t u : Tok} {k : Int} (hk0 : 0 ≤ k) (hk3 : k < 3) (hw : wd.length ≤ 3)
    (h : ∀ h' t' tk, Kp s.heap h' → Q (.str (S (patS wd k)) tk) { s with heap := h', toks := t' }) :
    wpAny (model PW w) A (call (.ref 236) [.str (S wd) t, .int k u]) Q E s := by
  refine' callK (f236 w) (d := d + 1) [("word", .str (S wd) t), ("kind", .int k u)] (upd (upd (fun _ => none) "word" (.str (S wd) t)) "kind" (.int k u)) (fun _ => none) C R ?h2 ?h3 ?h4 ?h5 ?h6 ?h7 ?h8 ?h9 ?h10 ?h11 ?_
  case h2 => rfl
  case h3 => rfl
  case h4 => rfl
  case h5 => rfl
  case h6 => rfl
  case h7 => rfl
  case h8 => rfl
  case h9 => intro _; rfl
  case h10 => intro _; rfl
  case h11 => rfl
  intro L h₁ t₁ E' X R' C'
  ktr_unf
  refine lc (fun _ _ vs ys => SV ys ((wd.take vs.length).map sgn)) (cmo := fun _ => none) (by rfl) (by rfl) (by decide) (.inl ⟨by rfl, fun _ => by rfl⟩) (fun _ _ _ _ _ _ h => h) (fun _ _ => SV.nil) ?_
  refine nm_loc X.ev (by rfl) ?_
  refine ⟨_, _, _, src_str R'.hd, ?_, (fun n c e => nomatch e), ?_, ?_⟩
  · have : sizeLine = 16777216 := by decide
    show (S wd).length ≤ _
    rw [S_len]; (first | lia | omega)
  · intro Cc pv vs ys v s₃ m cm E' hlt hP _ hJ hk _ _ X3 hm _ _
    refine wpAny_tests_nil ⟨_, _, rfl, Kp.refl _, ?_⟩
    first | refine pif_t rfl ?_ | refine wif_t rfl ?_ | rw [if_pos rfl]
    refine cutQ fun P₀ hP₀ => ?_
    have hm := hm (by rfl)
    obtain ⟨c, u, hc, rfl⟩ := hP
    have hc' : wd[vs.length]? = some c := by simpa [S] using hc
    ktr_unf
    refine nm_loc X3 hm ?_
    ktr_unf
    have eL : (wd.take (vs ++ [Value.str ⟨#[c]⟩ u]).length).map sgn = (wd.take vs.length).map sgn ++ [sgn c] := by
      rw [List.length_append, List.length_singleton, take_snoc hc', List.map_append]; rfl
    by_cases h97 : c = 97
    · first | refine pif_t (by rw [one_eq o_a, h97]; rfl) ?_ | refine wif_t (by rw [one_eq o_a, h97]; rfl) ?_ | rw [if_pos (by rw [one_eq o_a, h97]; rfl)]
      ktr_unf
      exact ⟨_, _, rfl, Kp.refl _, by (try dsimp only); rw [eL]; exact hJ.snoc' (by rw [o_a]; simp [sgn, h97])⟩
    · first | refine pif_f (by rw [one_eq o_a]; simpa using h97) ?_ | refine wif_f (by rw [one_eq o_a]; simpa using h97) ?_ | rw [if_neg (by rw [one_eq o_a]; simpa using h97)]
      ktr_unf
      refine nm_loc X3 hm ?_
      have e1 : Str.ofString "[" ++ ⟨#[c]⟩ = S [91, c] := by rw [o_br]; exact S_app [91] [c]
      have e2 : S [91, c] ++ Str.ofString "]" = S [91, c, 93] := by rw [o_rb]; exact S_app [91, c] [93]
      refine add_str (fun t1 k1 => ?_) (by rw [o_br, S_len, sizeLine_is]; show 1 + 1 ≤ _; (first | lia | omega))
      rw [e1]
      ktr_unf
      refine add_str (fun t1 k1 => ?_) (by rw [o_rb, S_len, S_len, sizeLine_is]; show 2 + 1 ≤ _; (first | lia | omega))
      rw [e2]
      ktr_unf
      exact ⟨_, _, rfl, Kp.refl _, by (try dsimp only); rw [eL]; exact hJ.snoc' (by simp [sgn, h97])⟩
  · intro D h' t' ys vs pv hD hk hl hlen hP hJ _ _
    have hys : SV ys (wd.map sgn) := by
      have e : vs.length = wd.length := by simpa [S] using hlen
      simpa [e] using hJ
    ktr_unf
    obtain ⟨l, el, e2⟩ := hys.vals
    have ef : (wd.map sgn).flatten = wd.flatMap sgn := by rw [List.flatMap_def]
    have hfl := flat_sgn wd
    refine SC.join (l := l) (by rw [el]; exact hl.isList) e2 (by rw [o_nil]; exact join_ok _ (by rw [ef]; (first | lia | omega))) fun t2 k2 => ?_
    rw [o_nil, join_flat, ef]
    refine st_loc (X.kp hk) fun h3 X3 k3 => ?_
    ktr_unf
    have hk : k = 0 ∨ k = 1 ∨ k = 2 := by (first | lia | omega)
    refine new_list (fun l1 h4 _ k4 _ p4 => ?_) (by rw [sizeLine_is]; exact Nat.le_of_ble_eq_true rfl)
    refine nm_loc (X3.kp k4).ev (by rfl) ?_
    have key : ∀ (a b : List Nat) (v1 v2 : Nat → Value), True := fun _ _ _ _ => trivial
    rcases hk with rfl | rfl | rfl
    all_goals (
      refine sub_list p4 (by decide) rfl ?_ (by decide)
      refine nm_loc (X3.kp k4).ev (by rfl) ?_
      ktr_unf
      refine add_str (fun t5 k5 => ?_) (by (try rw [o_st]); (try rw [o_nil]); rw [S_len, S_len, sizeLine_is]; simp only [List.length_nil, List.length_cons]; (first | lia | omega))
      ktr_unf
      refine new_list (fun l6 h6 _ k6 _ p6 => ?_) (by rw [sizeLine_is]; exact Nat.le_of_ble_eq_true rfl)
      refine nm_loc ((X3.kp k4).kp k6).ev (by rfl) ?_
      refine sub_list p6 (by decide) rfl ?_ (by decide)
      ktr_unf
      refine add_str (fun t7 k7 => ?_) (by (try rw [o_st]); (try rw [o_nil]); (try rw [S_app]); rw [S_len, S_len, sizeLine_is]; simp only [List.length_append, List.length_nil, List.length_cons]; (first | lia | omega))
      have := h h6 k7 t7 (((X3.kp k4).kp k6).keep)
      ktr_unf
      simp only [o_st, o_nil, S_app]
      simpa [patS] using this)
end

section
open PySem PySem.W PySem.Calls PyProof.Rows PyProof.V
variable [Lo]
omit [Lo] in
/-- the signs of a word -/
def sig (i : Int) : Nat := if i = 0 then 97 else if i = 1 then 42 else 91
omit [Lo] in
def wordOf (x : Int) : List Nat := (List.range (1 + (x.emod 3).toNat)).map fun k => sig ((x.fdiv (3 ^ (k + 1))).fmod 3)

omit [Lo] in
theorem item_sig {i : Int} (h0 : 0 ≤ i) (h3 : i < 3) : Txt.item (Str.ofString "a*[") i = S [sig i] := by
  have : i = 0 ∨ i = 1 ∨ i = 2 := by (first | lia | omega)
  rcases this with rfl | rfl | rfl <;> decide +kernel
omit [Lo] in
theorem fmod3 (x : Int) : x.fmod 3 = x.emod 3 := Int.fmod_eq_emod_of_nonneg x (by decide)
omit [Lo] in
theorem fmod3_in (x : Int) : (0:Int) ≤ x.fmod 3 ∧ x.fmod 3 < 3 := by rw [fmod3]; exact ⟨Int.emod_nonneg _ (by decide), Int.emod_lt_of_pos _ (by decide)⟩
section
variable {w : World} {A : Around} {E : Value → Shared → Prop} {s : Shared}
theorem call_rng {n : Int} {t : Tok} {Q : Value → Shared → Prop} (hh : A.handled = none) (h0 : 0 ≤ n) (h1 : n ≤ 1000000)
    (h : ∀ a h' t', Kp s.heap h' → Src w A (.ref a) { s with heap := h', toks := t' } [] n.toNat (fun i v => ∃ t, v = .int (i : Int) t) → Q (.ref a) { s with heap := h', toks := t' }) :
    wpAny (model PW w) A (call (.type "range") [.int n t]) Q E s := by
  refine call_range_1 (h _ _ _ (Kp.push _ _) ?_)
  have e : Builtin.Range.rangeSize 0 n 1 = (n.toNat : Int) := by
    unfold Builtin.Range.rangeSize
    simp only [show (1:Int) > 0 by decide, if_true]
    split
    · rw [Int.ediv_one]; (first | lia | omega)
    · (first | lia | omega)
  have := src_range (w := w) (s := { s with heap := s.heap.push { cls := .type "range", data := .fields #[.int 0 s.toks, .int n t, .int 1 (s.toks + 1)] }, toks := s.toks + 1 + 1 }) (n := n.toNat) hh (Heap.get?_push_size _ rfl) (by decide) (by decide) (by (first | lia | omega)) h1 e
  simpa using this
end

omit [Lo] in
noncomputable def f231 (w : World) : Fn w 231 := ⟨_, _, _, _, rfl⟩
set_option maxHeartbeats 4000000 in
theorem c_word {w : World} {A : Around} {E : Value → Shared → Prop} {s : Shared} {Q : Value → Shared → Prop} {d : Nat} (C : Cx w s.heap) (R : Rm A (d + 2) s.heap) {x : Int} {t : Tok}
    (h : ∀ h' t' tk, Kp s.heap h' → Q (.str (S (wordOf x)) tk) { s with heap := h', toks := t' }) :
    wpAny (model PW w) A (call (.ref 231) [.int x t]) Q E s := by
  refine' callK (f231 w) (d := d + 1) [("x", .int x t)] (fun _ => none) (upd (fun _ => none) "x" (.int x t)) C R ?h2 ?h3 ?h4 ?h5 ?h6 ?h7 ?h8 ?h9 ?h10 ?h11 ?_
  case h2 => rfl
  case h3 => rfl
  case h4 => rfl
  case h5 => rfl
  case h6 => rfl
  case h7 => rfl
  case h8 => rfl
  case h9 => intro _; rfl
  case h10 => intro _; rfl
  case h11 => rfl
  intro L h₁ t₁ E' X R' C'
  ktr_unf
  have hx3 := fmod3_in x
  refine lc (cl := [("x", L + 1)]) (fun _ _ vs ys => SV ys (((List.range (1 + (x.emod 3).toNat)).take vs.length).map fun k => [sig ((x.fdiv (3 ^ (k + 1))).fmod 3)])) (cmo := upd (fun _ => none) "x" (.int x t)) (by rfl) (by rfl) (by decide) (.inl ⟨by rfl, fun _ => by rfl⟩) (fun _ _ _ _ _ _ h => h) (fun _ _ => SV.nil) ?_
  ktr_unf
  refine nm_blt (v := .type "range") C' (by rfl) rfl ?_
  ktr_unf
  refine nm_cell X.ev (by rfl) ?_
  ktr_unf
  refine mod_int' (by decide) ?_
  ktr_unf
  refine call_rng R'.hd (by (first | lia | omega)) (by (first | lia | omega)) fun a h2 t2 k2 hS => ?_
  rw [show (1 + x.fmod 3).toNat = 1 + (x.emod 3).toNat by rw [fmod3] at hx3 ⊢; (first | lia | omega)] at hS
  refine ⟨_, _, _, hS, ?_, ?_, ?_, ?_⟩
  · rw [sizeLine_is]; rw [fmod3] at hx3; (first | lia | omega)
  · intro n c e
    exact (X.ev.kp k2).cell n c e
  · intro Cc pv vs ys v s₃ m cm E' hlt hP _ hJ hk _ _ X3 hm _ hcm
    refine wpAny_tests_nil ⟨_, _, rfl, Kp.refl _, ?_⟩
    first | refine pif_t rfl ?_ | refine wif_t rfl ?_ | rw [if_pos rfl]
    refine cutQ fun P₀ hP₀ => ?_
    have hm := hm (by rfl)
    obtain ⟨u, rfl⟩ := hP
    ktr_unf
    refine nm_cell X3 (by rw [hcm _ (by rfl)]; rfl) ?_
    ktr_unf
    refine nm_loc X3 hm ?_
    ktr_unf
    have hv : vs.length < 3 := by rw [fmod3] at hx3; (first | lia | omega)
    refine pow_int (by (first | lia | omega)) ?_ ?_
    · have : Builtin.Int.intBits 3 = 2 := by decide +kernel
      rw [this]; (first | lia | omega)
    have he : ((vs.length : Int) + 1).toNat = vs.length + 1 := by (first | lia | omega)
    rw [he]
    have h3 : (3:Int) ^ (vs.length + 1) = 3 ∨ (3:Int) ^ (vs.length + 1) = 9 ∨ (3:Int) ^ (vs.length + 1) = 27 := by
      have : vs.length = 0 ∨ vs.length = 1 ∨ vs.length = 2 := by (first | lia | omega)
      rcases this with e | e | e <;> rw [e] <;> decide
    refine floordiv_int (by (first | lia | omega)) ?_ (Or.inl (PyProof.noPylong_small (by (first | lia | omega))))
    ktr_unf
    refine mod_int' (b := 3) (by decide) ?_
    have hy := fmod3_in (x.fdiv (3 ^ (vs.length + 1)))
    have hl : ((Str.ofString "a*[").length : Int) = 3 := by decide +kernel
    refine item_str (fitsSsize_of (N := 4) (by (first | lia | omega)) (by (first | lia | omega)) (by decide)) (by (first | lia | omega)) (by (first | lia | omega)) fun _ => ?_
    ktr_unf
    refine ⟨_, _, rfl, Kp.refl _, ?_⟩
    try dsimp only
    have eL : (List.range (1 + (x.emod 3).toNat))[vs.length]? = some vs.length := by rw [List.getElem?_range hlt]
    rw [List.length_append, List.length_singleton, take_snoc eL, List.map_append, item_sig hy.1 hy.2]
    exact hJ.snoc
  · intro D h' t' ys vs pv hD hk hl hlen hP hJ _ _
    have hys : SV ys ((List.range (1 + (x.emod 3).toNat)).map fun k => [sig ((x.fdiv (3 ^ (k + 1))).fmod 3)]) := by
      have : (List.range (1 + (x.emod 3).toNat)).take vs.length = List.range (1 + (x.emod 3).toNat) := List.take_of_length_le (by rw [List.length_range]; (first | lia | omega))
      rwa [this] at hJ
    ktr_unf
    obtain ⟨l, el, e2⟩ := hys.vals
    have ef : ((List.range (1 + (x.emod 3).toNat)).map fun k => [sig ((x.fdiv (3 ^ (k + 1))).fmod 3)]).flatten = wordOf x := by
      unfold wordOf
      generalize List.range (1 + (x.emod 3).toNat) = r
      induction r with
      | nil => rfl
      | cons a r ih => simp [ih]
    have hfl : (wordOf x).length ≤ 3 := by unfold wordOf; rw [List.length_map, List.length_range]; rw [fmod3] at hx3; (first | lia | omega)
    refine SC.join (l := l) (by rw [el]; exact hl.isList) e2 (by rw [o_nil]; exact join_ok _ (by rw [ef]; (first | lia | omega))) fun t2 _ => ?_
    rw [o_nil, join_flat, ef]
    ktr_unf
    exact h _ _ _ ((X.kp k2).kp hk).keep
end

section
open PySem PySem.W PySem.Calls PyProof.Rows PyProof.V
variable [Lo]
section
variable {w : World} {A : Around} {E : Value → Shared → Prop} {s : Shared}
theorem add_lst {l b : Addr} {vs ws : List Value} {Q : Value → Shared → Prop} (hl : s.heap.PlainList l vs.toArray) (hb : s.heap.PlainList b ws.toArray)
    (h : ∀ a h', Kp s.heap h' → s.heap.get? a = none → h'.PlainList a (vs ++ ws).toArray → Q (.ref a) { s with heap := h' }) (hsz : vs.length + ws.length ≤ 100000) :
    wpAny (model PW w) A (binaryOp .Add (.ref l) (.ref b)) Q E s := by
  obtain ⟨n, e⟩ := hl
  obtain ⟨n2, e2⟩ := hb
  refine P.add_list (n := n) (n2 := n2) e e2 (h _ _ (Kp.push _ _) (size_none _) ⟨0, ?_⟩) (by rw [List.size_toArray, List.size_toArray, sizeLine_is]; (first | lia | omega))
  have := Heap.get?_push_size s.heap (o := { cls := .type "list", data := .seq (vs ++ ws).toArray }) rfl
  simpa using this

omit [Lo] in
/-- dicts whose keys are texts -/
abbrev DK (w : World) (h : Heap) (d : Addr) (kvs : List (Str × Value)) : Prop := h.DictOf (strKind PW w) d kvs
theorem dk_kp {h h' : Heap} {d : Addr} {kvs : List (Str × Value)} (x : DK w h d kvs) (k : Kp h h') : DK w h' d kvs :=
  let ⟨o, es, ep, e, c, r⟩ := x; ⟨o, es, ep, k.off _ _ e (by rw [c.1]; exact cn _ _ (by decide)), c, r⟩
omit [Lo] in
theorem dk_ko {h h' : Heap} {d : Addr} {kvs : List (Str × Value)} (x : DK w h d kvs) (k : Ko h h') : DK w h' d kvs :=
  let ⟨o, es, ep, e, c, r⟩ := x; ⟨o, es, ep, k _ _ e (by rw [c.1]; exact cn _ _ (by decide)) (by rw [c.1]; exact cn _ _ (by decide)), c, r⟩
omit [Lo] in
theorem sub_dk {value slice : Expr} {d : Addr} {kvs : List (Str × Value)} {k : Str} {t : Tok} {v : Value} {Q : Value → Shared → Prop} (hm : DK w s.heap d kvs) (hv : valueAt kvs k = some v) (h : Q v { s with toks := s.toks + 1 })
    (hs : subscripted slice false (.ref d) (.str k t) = operate [.ref d, .str k t] (getItem (.ref d) (.str k t)) := by rfl) : wpAny (model PW w) A (subscriptTail value slice (.ref d) (.str k t)) Q E s :=
  tail_any hm.typeIs F.slot_dict_getitem.lookup (wpAny_getItem_of (strKind_is _ _ _ _) hm.mapOf hv h) hs
end
omit [Lo] in
theorem Paired.app {α β : Type} {R : α → β → Prop} {a c : List α} {b d : List β} (h : Paired R a b) (k : Paired R c d) : Paired R (a ++ c) (b ++ d) := by
  induction h with
  | nil => exact k
  | cons q _ ih => exact .cons q ih
omit [Lo] in
/-- parts of a pattern: the star's own list, or a text -/
def PV (st : Addr) : List Value → List (Option (List Nat)) → Prop := Paired fun v p => match p with | none => v = .ref st | some l => ∃ t, v = .str (S l) t
omit [Lo] in
theorem SV.pv {st : Addr} {vs : List Value} {ws : List (List Nat)} (h : SV vs ws) : PV st vs (ws.map some) := by
  induction h with
  | nil => exact .nil
  | cons q _ ih => exact .cons q ih
omit [Lo] in
theorem PV.app {st : Addr} {a c : List Value} {b d : List (Option (List Nat))} (h : PV st a b) (k : PV st c d) : PV st (a ++ c) (b ++ d) := Paired.app h k
end

section
open PySem PySem.W PySem.Calls PyProof.Rows PyProof.V
variable [Lo]
omit [Lo] in
/-- _law_parts -/
def tx (c : Nat) : List Nat := if c = 97 then [97] else if c = 42 then [91, 42, 93] else [91, 92, 91, 93]
omit [Lo] in
def partsOf (wd : List Nat) (k : Int) : List (Option (List Nat)) := (if k = 0 then [] else [none]) ++ (wd.map tx).map some ++ (if k = 1 then [] else [none])
omit [Lo] in
noncomputable def f241 (w : World) : Fn w 241 := ⟨_, _, _, _, rfl⟩
set_option maxHeartbeats 4000000 in
theorem c_parts {w : World} {A : Around} {E : Value → Shared → Prop} {s : Shared} {Q : Value → Shared → Prop} {d : Nat} (C : Cx w s.heap) (R : Rm A (d + 2) s.heap) {wd : List Nat} {t u : Tok} {k : Int} {st : Addr} (hk0 : 0 ≤ k) (hk3 : k < 3) (hw : wd.length ≤ 3)
    (hsg : ∀ c ∈ wd, c = 97 ∨ c = 42 ∨ c = 91)
    (h : ∀ a vs h' t', Kp s.heap h' → s.heap.get? a = none → h'.PlainList a vs.toArray → PV st vs (partsOf wd k) → Q (.ref a) { s with heap := h', toks := t' }) :
    wpAny (model PW w) A (call (.ref 241) [.str (S wd) t, .int k u, .ref st]) Q E s := by
  refine' callK (f241 w) (d := d + 1) [("word", .str (S wd) t), ("kind", .int k u), ("star", .ref st)] (upd (upd (upd (fun _ => none) "word" (.str (S wd) t)) "kind" (.int k u)) "star" (.ref st)) (fun _ => none) C R ?h2 ?h3 ?h4 ?h5 ?h6 ?h7 ?h8 ?h9 ?h10 ?h11 ?_
  case h2 => rfl
  case h3 => rfl
  case h4 => rfl
  case h5 => rfl
  case h6 => rfl
  case h7 => rfl
  case h8 => rfl
  case h9 => intro _; rfl
  case h10 => intro _; rfl
  case h11 => rfl
  intro L h₁ t₁ E' X R' C'
  refine wpAny_execs_cons ?_
  refine lc_to (h₀ := s.heap) (fun _ _ vs ys => SV ys ((wd.take vs.length).map tx)) (cmo := fun _ => none) (by rfl) (by rfl) (by rfl) (by decide) (.inl ⟨by rfl, fun _ => by rfl⟩) (fun _ _ _ _ _ _ h => h) (fun _ _ => SV.nil) (by rfl) (by rfl) ?_
  refine nm_loc X.ev (by rfl) ?_
  refine ⟨_, _, _, _, _, X, src_str R'.hd, ?_, (fun n c e => nomatch e), ?_, ?_⟩
  · show (S wd).length ≤ _
    rw [S_len, sizeLine_is]; (first | lia | omega)
  · intro Cc pv vs ys v s₃ m cm E' hlt hP _ hJ hk _ _ X3 hm _ _
    refine wpAny_tests_nil ⟨_, _, rfl, Kp.refl _, ?_⟩
    first | refine pif_t rfl ?_ | refine wif_t rfl ?_ | rw [if_pos rfl]
    refine cutQ fun P₀ hP₀ => ?_
    have hm := hm (by rfl)
    obtain ⟨c, u, hc, rfl⟩ := hP
    have hc' : wd[vs.length]? = some c := by simpa [S] using hc
    ktr_unf
    have hD := Heap.DictOf.new (knd := strKind PW w) s₃.heap
    refine wpAny_Dict_walk (knd := strKind PW w) rfl rfl (by decide) (by decide) ?_
    refine pairTrees_cons_walk ?_
    ktr_unf
    refine pairTrees_cons_walk ?_
    ktr_unf
    refine pairTrees_cons_walk ?_
    ktr_unf
    refine pairTrees_nil_walk ?_
    refine display_done_str (by rfl) (by simp only [strPairs, o_a, o_st, o_br, List.map]; decide +kernel) hD fun h4 d4 hs4 => ?_
    dsimp only
    have k4 : Kp s₃.heap h4 := Kp.of fun b o e => hs4.extBut b o (nn (size_none _) e) (Heap.get?_push_of_some _ e)
    refine nm_loc (X3.kp k4) hm ?_
    have hcm : c ∈ wd := List.mem_of_getElem? hc'
    have eL : (wd.take (vs ++ [Value.str ⟨#[c]⟩ u]).length).map tx = (wd.take vs.length).map tx ++ [tx c] := by
      rw [List.length_append, List.length_singleton, take_snoc hc', List.map_append]; rfl
    rcases hsg c hcm with rfl | rfl | rfl
    · refine sub_dk (k := S [97]) d4 (by simp only [o_a, o_st, o_br]; rfl) ?_
      ktr_unf
      exact ⟨_, _, rfl, k4, by (try dsimp only); rw [eL]; exact hJ.snoc' o_a⟩
    · refine sub_dk (k := S [42]) d4 (by simp only [o_a, o_st, o_br]; rfl) ?_
      ktr_unf
      exact ⟨_, _, rfl, k4, by (try dsimp only); rw [eL]; exact hJ.snoc' (by decide +kernel)⟩
    · refine sub_dk (k := S [91]) d4 (by simp only [o_a, o_st, o_br]; rfl) ?_
      ktr_unf
      exact ⟨_, _, rfl, k4, by (try dsimp only); rw [eL]; exact hJ.snoc' (by decide +kernel)⟩
  · intro D h2 t2 ys vs pv hD X2 k2 hl hlen hP hJ _ _
    have hys : SV ys (wd.map tx) := by
      have e : vs.length = wd.length := by simpa [S] using hlen
      simpa [e] using hJ
    have hyl : ys.length = wd.length := by rw [hys.length, List.length_map]
    ktr_unf
    refine nm_loc X2.ev (by rfl) ?_
    ktr_unf
    have hk : k = 0 ∨ k = 1 ∨ k = 2 := by (first | lia | omega)
    have hn : PV st [.ref st] [none] := .cons rfl .nil
    rcases hk with rfl | rfl | rfl
    · first | refine pif_f (by decide) ?_ | refine wif_f (by decide) ?_ | rw [if_neg (by decide)]
      ktr_unf
      refine new_list (fun l3 h3 _ k3 n3 p3 => ?_) (by rw [sizeLine_is]; exact Nat.le_of_ble_eq_true rfl)
      refine nm_loc (X2.kp k3).ev (by rfl) ?_
      refine add_lst p3 (pl_kp hl k3) (fun l4 h4 k4 n4 p4 => ?_) (by simp; (first | lia | omega))
      ktr_unf
      refine nm_loc ((X2.kp k3).kp k4).ev (by rfl) ?_
      ktr_unf
      first | refine pif_t (by decide) ?_ | refine wif_t (by decide) ?_ | rw [if_pos (by decide)]
      ktr_unf
      refine nm_loc ((X2.kp k3).kp k4).ev (by rfl) ?_
      ktr_unf
      refine new_list (fun l5 h5 _ k5 n5 p5 => ?_) (by rw [sizeLine_is]; exact Nat.le_of_ble_eq_true rfl)
      refine add_lst (pl_kp p4 k5) p5 (fun l6 h6 k6 n6 p6 => ?_) (by simp; (first | lia | omega))
      have K := (((X2.kp k3).kp k4).kp k5).keep
      ktr_unf
      exact h _ _ _ _ (K.trans k6) (K.none n6) p6 ((PV.app .nil hys.pv).app hn)
    · first | refine pif_t (by decide) ?_ | refine wif_t (by decide) ?_ | rw [if_pos (by decide)]
      ktr_unf
      refine nm_loc X2.ev (by rfl) ?_
      ktr_unf
      refine new_list (fun l3 h3 _ k3 n3 p3 => ?_) (by rw [sizeLine_is]; exact Nat.le_of_ble_eq_true rfl)
      refine nm_loc (X2.kp k3).ev (by rfl) ?_
      refine add_lst p3 (pl_kp hl k3) (fun l4 h4 k4 n4 p4 => ?_) (by simp; (first | lia | omega))
      ktr_unf
      refine nm_loc ((X2.kp k3).kp k4).ev (by rfl) ?_
      ktr_unf
      first | refine pif_f (by decide) ?_ | refine wif_f (by decide) ?_ | rw [if_neg (by decide)]
      ktr_unf
      refine new_list (fun l5 h5 _ k5 n5 p5 => ?_) (by rw [sizeLine_is]; exact Nat.le_of_ble_eq_true rfl)
      refine add_lst (pl_kp p4 k5) p5 (fun l6 h6 k6 n6 p6 => ?_) (by simp; (first | lia | omega))
      have K := (((X2.kp k3).kp k4).kp k5).keep
      ktr_unf
      exact h _ _ _ _ (K.trans k6) (K.none n6) p6 ((PV.app hn hys.pv).app .nil)
    · first | refine pif_t (by decide) ?_ | refine wif_t (by decide) ?_ | rw [if_pos (by decide)]
      ktr_unf
      refine nm_loc X2.ev (by rfl) ?_
      ktr_unf
      refine new_list (fun l3 h3 _ k3 n3 p3 => ?_) (by rw [sizeLine_is]; exact Nat.le_of_ble_eq_true rfl)
      refine nm_loc (X2.kp k3).ev (by rfl) ?_
      refine add_lst p3 (pl_kp hl k3) (fun l4 h4 k4 n4 p4 => ?_) (by simp; (first | lia | omega))
      ktr_unf
      refine nm_loc ((X2.kp k3).kp k4).ev (by rfl) ?_
      ktr_unf
      first | refine pif_t (by decide) ?_ | refine wif_t (by decide) ?_ | rw [if_pos (by decide)]
      ktr_unf
      refine nm_loc ((X2.kp k3).kp k4).ev (by rfl) ?_
      ktr_unf
      refine new_list (fun l5 h5 _ k5 n5 p5 => ?_) (by rw [sizeLine_is]; exact Nat.le_of_ble_eq_true rfl)
      refine add_lst (pl_kp p4 k5) p5 (fun l6 h6 k6 n6 p6 => ?_) (by simp; (first | lia | omega))
      have K := (((X2.kp k3).kp k4).kp k5).keep
      ktr_unf
      exact h _ _ _ _ (K.trans k6) (K.none n6) p6 ((PV.app hn hys.pv).app hn)
end

section
open PySem PySem.W PySem.Calls PyProof.Rows PyProof.V
variable [Lo]
open Builtin.Str in
omit [Lo] in
theorem idx_clamp (a b : Int) (n : Nat) : strSliceIndices (some a) (some b) 1 n = strSliceIndices (some (((max 0 (min (if a < 0 then a + n else a) n)).toNat : Nat) : Int)) (some (((max 0 (min (if b < 0 then b + n else b) n)).toNat : Nat) : Int)) 1 n := by
  simp only [strSliceIndices, show ((1 : Int) > 0) = True from by simp, if_true]
  congr 1
  · split <;> split <;> (first | lia | omega)
  · split <;> split <;> (first | lia | omega)
omit [Lo] in
def clampI (a : Int) (n : Nat) : Nat := (max 0 (min (if a < 0 then a + n else a) n)).toNat
omit [Lo] in
theorem clampI_le (a : Int) (n : Nat) : clampI a n ≤ n := by unfold clampI; (first | lia | omega)
omit [Lo] in
theorem idx_pick (l : List Nat) (a b : Int) : ((Builtin.Str.strSliceIndices (some a) (some b) 1 l.length).filterMap (l[·]?)) = (l.take (clampI b l.length)).drop (clampI a l.length) ∧
    ((Builtin.Str.strSliceIndices (some a) (some b) 1 l.length).length = l.length → (l.take (clampI b l.length)).drop (clampI a l.length) = l) := by
  rw [idx_clamp]
  show ((Builtin.Str.strSliceIndices (some ((clampI a l.length : Nat) : Int)) (some ((clampI b l.length : Nat) : Int)) 1 l.length).filterMap (l[·]?)) = _ ∧ ((Builtin.Str.strSliceIndices (some ((clampI a l.length : Nat) : Int)) (some ((clampI b l.length : Nat) : Int)) 1 l.length).length = _ → _)
  have hb := clampI_le b l.length
  generalize clampI a l.length = i
  generalize clampI b l.length = j at *
  by_cases hij : i ≤ j
  · have e := StrLaws.sliced_plain (S l) hij (by rw [S_len]; exact hb)
    rw [S_len] at e
    have e1 : (S l).cps.toList = l := by simp [S]
    have e2 : ∀ k : Nat, (S l).cps[k]? = l[k]? := fun k => by simp [S]
    simp only [e1, e2] at e
    rw [e, StrLaws.strSliceIndices_plain hij hb]
    refine ⟨by rw [List.drop_take], fun hl => ?_⟩
    rw [List.length_map, List.length_range] at hl
    have h1 : i = 0 := by (first | lia | omega)
    have h2 : j = l.length := by (first | lia | omega)
    subst h1 h2; simp
  · have : Builtin.Str.strSliceIndices (some ((i : Nat) : Int)) (some ((j : Nat) : Int)) 1 l.length = [] := by
      have h1 : ¬ ((i : Int) < 0) := by (first | lia | omega)
      have h2 : ¬ ((j : Int) < 0) := by (first | lia | omega)
      simp only [Builtin.Str.strSliceIndices, sliceRange, h1, h2, if_false, show ((1 : Int) > 0) = True from by simp, if_true]
      rw [if_neg (by (first | lia | omega))]; rfl
    rw [this]
    refine ⟨?_, fun hl => ?_⟩
    · symm
      simp only [List.filterMap_nil]
      exact List.drop_eq_nil_of_le (by rw [List.length_take]; (first | lia | omega))
    · have : l = [] := List.length_eq_zero_iff.mp (by simpa using hl.symm)
      subst this; simp
omit [Lo] in
theorem slice_S (l : List Nat) (a b : Int) : Txt.slice (S l) (some a) (some b) = S ((l.take (clampI b l.length)).drop (clampI a l.length)) := by
  obtain ⟨h1, h2⟩ := idx_pick l a b
  have e2 : ∀ k : Nat, (S l).cps[k]? = l[k]? := fun k => by simp [S]
  unfold Txt.slice
  rw [S_len]
  split
  · rename_i hq
    rw [h2 (by simpa using hq)]
  · simp only [e2]
    rw [h1]; rfl
omit [Lo] in
theorem slice_S_lo (l : List Nat) (a : Int) : Txt.slice (S l) (some a) none = S (l.drop (clampI a l.length)) := by
  have e : Txt.slice (S l) (some a) none = Txt.slice (S l) (some a) (some (l.length : Int)) := by
    unfold Txt.slice; rw [S_len, StrLaws.sliceIdx_none_hi]
  rw [e, slice_S]
  have : clampI (l.length : Int) l.length = l.length := by unfold clampI; split <;> (first | lia | omega)
  rw [this, List.take_length]
omit [Lo] in
theorem slice_S_hi (l : List Nat) (b : Int) : Txt.slice (S l) none (some b) = S (l.take (clampI b l.length)) := by
  have e : Txt.slice (S l) none (some b) = Txt.slice (S l) (some 0) (some b) := by
    unfold Txt.slice; rw [StrLaws.sliceIdx_none_lo]
  rw [e, slice_S]
  have : clampI 0 l.length = 0 := by unfold clampI; split <;> (first | lia | omega)
  rw [this, List.drop_zero]
omit [Lo] in
theorem item_S (l : List Nat) {i : Int} {j c : Nat} (hj : (if i < 0 then i + l.length else i) = (j : Int)) (h : l[j]? = some c) : Txt.item (S l) i = S [c] := by
  have hlt : j < l.length := by
    rcases Nat.lt_or_ge j l.length with q | q
    · exact q
    · rw [List.getElem?_eq_none q] at h; cases h
  have : Txt.charAt (S l) i = some c := by
    unfold Txt.charAt seqIndex?
    rw [S_len, hj]
    simp [S, hlt]
    simpa [hlt] using h
  unfold Txt.item
  rw [this]; rfl

omit [Lo] in
/-- ints of a list -/
def IV : List Value → List Nat → Prop := Paired fun v n => ∃ t, v = .int (n : Int) t
omit [Lo] in
theorem IV.are {vs : List Value} {ns : List Nat} (h : IV vs ns) : IntsAre vs (ns.map Int.ofNat) := by
  induction h with
  | nil => exact .nil
  | cons q _ ih => obtain ⟨t, rfl⟩ := q; exact .cons _ _ ih
omit [Lo] in
theorem SV.are {vs : List Value} {ws : List (List Nat)} (h : SV vs ws) : StrsAre vs (ws.map S) := by
  induction h with
  | nil => exact .nil
  | cons q _ ih => obtain ⟨t, rfl⟩ := q; exact .cons _ _ ih
omit [Lo] in
theorem Paired.at' {α β : Type} {F : α → β → Prop} {l₁ : List α} {l₂ : List β} (h : Paired F l₁ l₂) : ∀ {i : Nat} {b : β}, l₂[i]? = some b → ∃ a, l₁[i]? = some a ∧ F a b := by
  induction h with
  | nil => intro i b e; simp at e
  | cons q _ ih =>
    intro i b e
    cases i with
    | zero => simp at e; subst e; exact ⟨_, rfl, q⟩
    | succ i => simpa using ih (by simpa using e)
omit [Lo] in
theorem Paired.get' {α β : Type} {F : α → β → Prop} {l₁ : List α} {l₂ : List β} (h : Paired F l₁ l₂) : ∀ {i : Nat} {a : α}, l₁[i]? = some a → ∃ b, l₂[i]? = some b ∧ F a b := by
  induction h with
  | nil => intro i b e; simp at e
  | cons q _ ih =>
    intro i b e
    cases i with
    | zero => simp at e; subst e; exact ⟨_, rfl, q⟩
    | succ i => simpa using ih (by simpa using e)
omit [Lo] in
theorem Paired.len' {α β : Type} {F : α → β → Prop} {l₁ : List α} {l₂ : List β} (h : Paired F l₁ l₂) : l₁.length = l₂.length := Paired.length h

open SeqAt in
omit [Lo] in
theorem all_eq {α : Type} [DecidableEq α] {xs ys : List α} (hl : xs.length = ys.length) : ((List.range xs.length).all fun j => decide (xs[j]? = ys[j]?)) = decide (xs = ys) := by
  rw [Bool.eq_iff_iff, List.all_eq_true, decide_eq_true_iff]
  constructor
  · intro h
    refine List.ext_getElem? fun i => ?_
    by_cases hi : i < xs.length
    · simpa using h i (by simpa using hi)
    · rw [List.getElem?_eq_none (by (first | lia | omega)), List.getElem?_eq_none (by (first | lia | omega))]
  · rintro rfl; simp
section
open SeqAt
variable {A : Around} {s : Shared} {α : Type} [DecidableEq α] {F : Value → α → Prop}
omit [Lo] in
theorem rc_lists {a b : Addr} {vs us : List Value} {xs ys : List α} (hE : ∀ v x v' x', v ∈ vs → v' ∈ us → F v x → F v' x' → EqAt A.in1 s v v' (decide (x = x'))) (hl : s.heap.PlainList a vs.toArray) (hb : s.heap.PlainList b us.toArray) (hx : Paired F vs xs) (hy : Paired F us ys) (hu : A.units < cLine) :
    RcAt A s (.ref a) (.ref b) (decide (xs = ys)) ∧ RcNeAt A s (.ref a) (.ref b) (!decide (xs = ys)) := by
  have h1 := Paired.len' hx
  have h2 := Paired.len' hy
  by_cases hlen : xs.length = ys.length
  · have key : ∀ j (h1 : j < vs.toArray.size) (h2 : j < us.toArray.size), EqAt A.in1 s vs.toArray[j] us.toArray[j] (decide (xs[j]? = ys[j]?)) := by
      intro j q1 q2
      obtain ⟨x, e1, p1⟩ := Paired.get' hx (i := j) (a := vs[j]'(by simpa using q1)) (List.getElem?_eq_getElem _)
      obtain ⟨y, e2, p2⟩ := Paired.get' hy (i := j) (a := us[j]'(by simpa using q2)) (List.getElem?_eq_getElem _)
      rw [e1, e2]
      have := hE _ _ _ _ (List.getElem_mem _) (List.getElem_mem _) p1 p2
      simpa using this
    have hs : vs.toArray.size = us.toArray.size := by simp; (first | lia | omega)
    have r1 := RcAt.lists (e := fun j => decide (xs[j]? = ys[j]?)) hl.isList hb.isList hs hu key
    have r2 := RcNeAt.lists (e := fun j => decide (xs[j]? = ys[j]?)) hl.isList hb.isList hs hu key
    rw [show vs.toArray.size = xs.length by simp [h1], all_eq hlen] at r1 r2
    exact ⟨r1, r2⟩
  · have hs : (vs.toArray.size != us.toArray.size) = true := by simp; (first | lia | omega)
    have hn : ¬ xs = ys := fun e => hlen (by rw [e])
    rw [decide_eq_false hn]
    exact ⟨RcAt.lists_lengths hl.isList hb.isList hs hu, RcNeAt.lists_lengths hl.isList hb.isList hs hu⟩
omit [Lo] in
theorem eqAt_str {s : Shared} {A : Around} {v v' : Value} {x x' : List Nat} (h : ∃ t, v = .str (S x) t) (h' : ∃ t, v' = .str (S x') t) : EqAt A s v v' (decide (x = x')) := by
  obtain ⟨t, rfl⟩ := h
  obtain ⟨t', rfl⟩ := h'
  have := EqAt.str_str (A := A) (s := s) (S x) t (S x') t'
  rw [S_beq] at this
  have e : (x == x') = decide (x = x') := by rw [Bool.eq_iff_iff]; simp
  rwa [e] at this
omit [Lo] in
theorem eqAt_int {s : Shared} {A : Around} {v v' : Value} {x x' : Nat} (h : ∃ t, v = .int (x : Int) t) (h' : ∃ t, v' = .int (x' : Int) t) : EqAt A s v v' (decide (x = x')) := by
  obtain ⟨t, rfl⟩ := h
  obtain ⟨t', rfl⟩ := h'
  have := EqAt.int_int (A := A) (s := s) (x : Int) t (x' : Int) t'
  have e : ((x : Int) == (x' : Int)) = decide (x = x') := by rw [Bool.eq_iff_iff]; simp; (first | lia | omega)
  rwa [e] at this
omit [Lo] in
/-- equal lists of texts, be they one object or two -/
theorem eqAt_refs {a b : Addr} {k : Bool} (h : RcAt A s (.ref a) (.ref b) k) (hs : a = b → k = true) : EqAt A s (.ref a) (.ref b) k := by
  by_cases e : a = b
  · subst e; rw [hs rfl]; exact EqAt.same _
  · exact EqAt.of_refs e h
end
end

section
open PySem PySem.W PySem.Calls PyProof.Rows PyProof.V
variable [Lo]
section
variable {w : World} {A : Around} {E : Value → Shared → Prop} {s : Shared} {value slice : Expr} {t : Tok} {Q : Value → Shared → Prop}
theorem keptKp (h₀ : Heap) : KeptH (Kp h₀) := fun h ob k => k.trans (Kp.push h ob)
omit [Lo] in
theorem sl_ss {l : List Nat} {a : Addr} {i j : Int} {ui uj : Tok} (hsl : s.heap.IsSlice a (some (i, ui)) (some (j, uj)) none) (h : ∀ t' k, Q (.str (S ((l.take (clampI j l.length)).drop (clampI i l.length))) t') { s with toks := k })
    (hsz : l.length ≤ 100000)
    (hs : subscripted slice false (.str (S l) t) (.ref a) = operate [.ref a, .str (S l) t] (getItem (.str (S l) t) (.ref a)) := by with_unfolding_all rfl)
    (ht : ∀ r, letTemporaryGo value (.str (S l) t) r = pure () := by intro _; with_unfolding_all rfl) :
    wpAny (model PW w) A (subscriptTail value slice (.str (S l) t) (.ref a)) Q E s :=
  tail_of_ItemOn ⟨"str", _, F.slot_str_getitem.lookup, typeIs_str _ _ _, wpAny_getItem_str_slice hsl rfl
    (post_val_or_str ⟨Nat.le_trans (Txt.slice_le (S l) _ _) (by rw [S_len, sizeLine_is]; omega), fun t' k => by
      have := h t' k
      rw [← slice_S] at this; exact this⟩)⟩ hs ht
omit [Lo] in
theorem sl_sn {l : List Nat} {a : Addr} {i : Int} {ui : Tok} (hsl : s.heap.IsSlice a (some (i, ui)) none none) (h : ∀ t' k, Q (.str (S (l.drop (clampI i l.length))) t') { s with toks := k })
    (hsz : l.length ≤ 100000)
    (hs : subscripted slice false (.str (S l) t) (.ref a) = operate [.ref a, .str (S l) t] (getItem (.str (S l) t) (.ref a)) := by with_unfolding_all rfl)
    (ht : ∀ r, letTemporaryGo value (.str (S l) t) r = pure () := by intro _; with_unfolding_all rfl) :
    wpAny (model PW w) A (subscriptTail value slice (.str (S l) t) (.ref a)) Q E s :=
  tail_of_ItemOn ⟨"str", _, F.slot_str_getitem.lookup, typeIs_str _ _ _, wpAny_getItem_str_slice hsl rfl
    (post_val_or_str ⟨Nat.le_trans (Txt.slice_le (S l) _ _) (by rw [S_len, sizeLine_is]; omega), fun t' k => by
      have := h t' k
      rw [← slice_S_lo] at this; exact this⟩)⟩ hs ht
omit [Lo] in
theorem sl_ns {l : List Nat} {a : Addr} {j : Int} {uj : Tok} (hsl : s.heap.IsSlice a none (some (j, uj)) none) (h : ∀ t' k, Q (.str (S (l.take (clampI j l.length))) t') { s with toks := k })
    (hsz : l.length ≤ 100000)
    (hs : subscripted slice false (.str (S l) t) (.ref a) = operate [.ref a, .str (S l) t] (getItem (.str (S l) t) (.ref a)) := by with_unfolding_all rfl)
    (ht : ∀ r, letTemporaryGo value (.str (S l) t) r = pure () := by intro _; with_unfolding_all rfl) :
    wpAny (model PW w) A (subscriptTail value slice (.str (S l) t) (.ref a)) Q E s :=
  tail_of_ItemOn ⟨"str", _, F.slot_str_getitem.lookup, typeIs_str _ _ _, wpAny_getItem_str_slice hsl rfl
    (post_val_or_str ⟨Nat.le_trans (Txt.slice_le (S l) _ _) (by rw [S_len, sizeLine_is]; omega), fun t' k => by
      have := h t' k
      rw [← slice_S_hi] at this; exact this⟩)⟩ hs ht
omit [Lo] in
theorem it_S {l : List Nat} {i : Int} {u : Tok} {j c : Nat} (hj : (if i < 0 then i + l.length else i) = (j : Int)) (hc : l[j]? = some c) (hsz : l.length ≤ 100000) (h : Q (.str (S [c]) s.toks) { s with toks := s.toks + 1 })
    (hs : subscripted slice false (.str (S l) t) (.int i u) = operate [.str (S l) t, .int i u] (getItem (.str (S l) t) (.int i u)) := by with_unfolding_all rfl)
    (ht : ∀ r, letTemporaryGo value (.str (S l) t) r = pure () := by intro _; with_unfolding_all rfl) :
    wpAny (model PW w) A (subscriptTail value slice (.str (S l) t) (.int i u)) Q E s := by
  have hlt : j < l.length := by
    rcases Nat.lt_or_ge j l.length with q | q
    · exact q
    · rw [List.getElem?_eq_none q] at hc; cases hc
  have hb : -(l.length : Int) ≤ i ∧ i < l.length := by split at hj <;> omega
  refine item_str (fitsSsize_of (N := 200000) (by omega) (by omega) (by decide)) (by rw [S_len]; exact hb.1) (by rw [S_len]; exact hb.2) (fun _ => ?_) hs ht
  rw [item_S l hj hc]; exact h
omit [Lo] in
theorem len_S {l : List Nat} (hsz : l.length ≤ 100000) (h : Q (.int l.length (s.toks + 1)) { s with toks := s.toks + 1 + 1 }) : wpAny (model PW w) A (call (.builtin "len") [.str (S l) t]) Q E s := by
  refine len_str (by rw [S_len]; omega) ?_
  rw [S_len]; exact h
omit [Lo] in
theorem len_L {a : Addr} {vs : List Value} (hl : s.heap.PlainList a vs.toArray) (hsz : vs.length ≤ 100000) (h : Q (.int vs.length (s.toks + 1)) { s with toks := s.toks + 1 + 1 }) : wpAny (model PW w) A (call (.builtin "len") [.ref a]) Q E s := by
  refine call_len_list hl.isList (by simp; omega) ?_
  simpa using h
omit [Lo] in
theorem ne_nil {a b : Addr} {vs : List Value} (hl : s.heap.PlainList a vs.toArray) (hb : s.heap.PlainList b (#[] : Array Value)) (hu : A.units < cLine) (h : Q (.bool (decide (vs ≠ []))) s) : wpAny (model PW w) A (compareOp .NotEq (.ref a) (.ref b)) Q E s := by
  cases vs with
  | nil => exact SeqAt.RcNeAt.lists (e := fun _ => true) hl.isList hb.isList rfl hu (fun j h1 h2 => by simp at h1) PW w E Q (by simpa using h)
  | cons v vs => exact SeqAt.RcNeAt.lists_lengths hl.isList hb.isList (by simp) hu PW w E Q (by simpa using h)
omit [Lo] in
theorem in_IV {a : Addr} {vs : List Value} {ns : List Nat} {k : Nat} (hl : s.heap.PlainList a vs.toArray) (hi : IV vs ns) (h : Q (.bool (decide (k ∈ ns))) s) : wpAny (model PW w) A (compareOp .In (.int (k : Int) t) (.ref a)) Q E s := by
  refine in_list_ints hl.isList hi.are ?_
  have : ((ns.map Int.ofNat).any fun x => x == (k : Int)) = decide (k ∈ ns) := by
    rw [Bool.eq_iff_iff]; simp [List.any_eq_true]
    constructor
    · rintro ⟨x, hx, e⟩; have : x = k := by omega
      exact this ▸ hx
    · exact fun hx => ⟨k, hx, rfl⟩
  rw [this]; exact h
omit [Lo] in
theorem in_SV {a : Addr} {vs : List Value} {ws : List (List Nat)} {l : List Nat} (hl : s.heap.PlainList a vs.toArray) (hi : SV vs ws) (h : Q (.bool (decide (l ∈ ws))) s) : wpAny (model PW w) A (compareOp .In (.str (S l) t) (.ref a)) Q E s := by
  refine in_list_strs hl.isList hi.are ?_
  have : ((ws.map S).any fun x => x == S l) = decide (l ∈ ws) := by
    rw [Bool.eq_iff_iff]; simp [List.any_eq_true]
    constructor
    · rintro ⟨x, hx, e⟩; exact (S_inj e) ▸ hx
    · exact fun hx => ⟨l, hx, rfl⟩
  rw [this]; exact h
end
omit [Lo] in
theorem IV.nil : IV [] [] := Paired.nil
omit [Lo] in
theorem IV.snoc {vs : List Value} {ns : List Nat} {n : Nat} {t : Tok} (h : IV vs ns) : IV (vs ++ [.int (n : Int) t]) (ns ++ [n]) := Paired.snoc h ⟨t, rfl⟩
omit [Lo] in
theorem IV.snoc' {vs : List Value} {ns : List Nat} {n : Nat} {i : Int} {t : Tok} (h : IV vs ns) (e : i = (n : Int)) : IV (vs ++ [.int i t]) (ns ++ [n]) := e ▸ h.snoc
omit [Lo] in
theorem sign_at (l : List Nat) (e c : Nat) : ((l.take (clampI ((e : Int) + 1) l.length)).drop (clampI (e : Int) l.length) = [c]) ↔ l[e]? = some c := by
  by_cases h : e < l.length
  · have h1 : clampI ((e : Int) + 1) l.length = e + 1 := by unfold clampI; split <;> omega
    have h2 : clampI (e : Int) l.length = e := by unfold clampI; split <;> omega
    rw [h1, h2, List.take_succ_eq_append_getElem h, List.drop_append_of_le_length (by rw [List.length_take]; omega)]
    rw [List.drop_eq_nil_of_le (by rw [List.length_take]; omega), List.getElem?_eq_getElem h]
    simp
  · have h2 : clampI (e : Int) l.length = l.length := by unfold clampI; split <;> omega
    rw [h2, List.drop_eq_nil_of_le (by rw [List.length_take]; omega), List.getElem?_eq_none (by omega)]
    simp
theorem Bd.rm {A : Around} {d : Nat} {h₀ h : Heap} {env : Env} {m cm : Str → Option Value} (X : Bd h₀ env m cm h) (R : Rm A (d + 1) h₀) (hk : env.scope.kind = .function := by rfl) (hf : env.frame = some env.locals := by rfl) : Rm (A.deeper env) d h :=
  (R.kp X.keep).deeper hk (X.frame hf)
theorem Bd.cx {w : World} {h₀ h : Heap} {env : Env} {m cm : Str → Option Value} (X : Bd h₀ env m cm h) (C : Cx w h₀) : Cx w h := C.up X.keep
omit [Lo] in
def CellsOk (env : Env) : List (Str × Addr) → Prop
  | [] => True
  | p :: r => env.cells.lookup p.1 = some p.2 ∧ CellsOk env r
omit [Lo] in
theorem Ev.cells {env : Env} {m cm : Str → Option Value} {h : Heap} (x : Ev env m cm h) : ∀ {cl : List (Str × Addr)}, CellsOk env cl → ∀ n c, cl.lookup n = some c → h.IsCell c (cm n)
  | [], _, _, _, e => nomatch e
  | (k, a) :: r, ⟨h1, h2⟩, n, c, e => by
    rw [List.lookup_cons] at e
    split at e
    · rename_i q; cases e; rw [beq_iff_eq.mp q]; exact x.cell _ _ h1
    · exact Ev.cells x h2 n c e
end

section
open PySem PySem.W PySem.Calls PyProof.Rows PyProof.V
variable [Lo]
omit [Lo] in
/-- _law_fits -/
def fitStep (wd : List Nat) (es : List Nat) : Option Nat → List Nat
  | none => (List.range (wd.length + 1)).filter fun e => es ≠ [] ∧ es.headD 0 ≤ e
  | some c => (es.filter fun e => wd[e]? = some c).map (· + 1)
omit [Lo] in
def fitsOf (qs : List (Option Nat)) (wd : List Nat) : Bool := decide (wd.length ∈ qs.foldl (fitStep wd) [0])

omit [Lo] in
/-- between the parts of a fit -/
inductive FtJ (st : Addr) (wd : List Nat) (t : Tok) (es : List Nat) (I : Addr) (m cm : Str → Option Value) (h : Heap) : Prop
  | mk (a : m "star" = some (.ref st)) (b : cm "word" = some (.str (S wd) t)) (l : Addr) (us : List Value) (n : l ≠ I) (c : cm "ends" = some (.ref l)) (p : h.PlainList l us.toArray) (le : us.length ≤ 4) (iv : IV us es) : FtJ st wd t es I m cm h
omit [Lo] in
noncomputable def f246 (w : World) : Fn w 246 := ⟨_, _, _, _, rfl⟩
set_option maxHeartbeats 4000000 in
theorem c_fits {w : World} {A : Around} {E : Value → Shared → Prop} {s : Shared} {Q : Value → Shared → Prop} {d : Nat} (C : Cx w s.heap) (R : Rm A (d + 2) s.heap) {wd : List Nat} {t : Tok} {st pa : Addr} {vs : List Value} {qs : List (Option Nat)}
    (hst : ∃ o, s.heap.get? st = some o) (hw : wd.length ≤ 3) (hp : s.heap.PlainList pa vs.toArray) (hv : PV st vs (qs.map (Option.map tx))) (hq : qs.length ≤ 1000) (hsg : ∀ c, some c ∈ qs → c = 97 ∨ c = 42 ∨ c = 91)
    (h : ∀ h' t', Kp s.heap h' → Q (.bool (fitsOf qs wd)) { s with heap := h', toks := t' }) :
    wpAny (model PW w) A (call (.ref 246) [.ref pa, .ref st, .str (S wd) t]) Q E s := by
  refine' callK (f246 w) (d := d + 1) [("parts", .ref pa), ("star", .ref st), ("word", .str (S wd) t)] (upd (upd (fun _ => none) "parts" (.ref pa)) "star" (.ref st)) (upd (fun _ => none) "word" (.str (S wd) t)) C R ?h2 ?h3 ?h4 ?h5 ?h6 ?h7 ?h8 ?h9 ?h10 ?h11 ?_
  case h2 => rfl
  case h3 => rfl
  case h4 => rfl
  case h5 => rfl
  case h6 => rfl
  case h7 => rfl
  case h8 => rfl
  case h9 => intro _; rfl
  case h10 => intro _; rfl
  case h11 => rfl
  intro L h₁ t₁ E' X R' C'
  refine cutQ fun P₀ hP₀ => ?_
  have hvl : vs.length = qs.length := by rw [Paired.len' hv, List.length_map]
  ktr_unf
  refine new_list (fun l2 h2 e2 k2 n2 p2 => ?_) (by rw [sizeLine_is]; exact Nat.le_of_ble_eq_true rfl)
  refine st_cell (X.kp k2) fun h3 X3 k3 => ?_
  ktr_unf
  have p3 := pl_ko p2 k3
  have hl2 : (∃ o, h3.get? l2 = some o) := let ⟨_, e⟩ := p3; ⟨_, e⟩
  refine for_rule (h₀ := s.heap) (binds_loc (by rfl) (by rfl)) ?_
  refine nm_loc X3.ev (by rfl) ?_
  refine ⟨_, _, _, _, _, [], fun I i m cm h' => FtJ st wd t ((qs.take i).foldl (fitStep wd) [0]) I m cm h',
    X3, src_list R'.hd (pl_ko (pl_kp (pl_kp hp X.keep) k2) k3), (fun z hz => nomatch hz), ?_, ⟨rfl, rfl, l2, _, ?_, rfl, p3, Nat.le_of_ble_eq_true rfl, ?_⟩, ?_, ?_⟩
  · rintro I i m cm h h' k ⟨a, b, l, us, n, c, ⟨nn, e⟩, r, r'⟩
    exact ⟨a, b, l, us, n, c, ⟨nn, k _ _ n e (cn _ _ (by decide)) (cn _ _ (by decide))⟩, r, r'⟩
  · intro q; subst q; obtain ⟨_, e⟩ := hl2; rw [size_none] at e; cases e
  · exact IV.snoc (n := 0) IV.nil
  · rintro I i v m₁ cm₁ s₂ E'' hi hvi hI ⟨oI, hIl, nI1, nI2⟩ X4 k4 ⟨hs1, hs2, l, us, hlI, hl1, hl2, hl3, hl4⟩
    refine cutQ fun P₀ hP₀ => ?_
    have R4 := X4.rm R
    have C4 := X4.cx C
    have hqi : ∃ q, qs[i]? = some q := ⟨qs[i]'(by (first | lia | omega)), List.getElem?_eq_getElem _⟩
    obtain ⟨q, hqi⟩ := hqi
    have hfold : (qs.take (i + 1)).foldl (fitStep wd) [0] = fitStep wd ((qs.take i).foldl (fitStep wd) [0]) q := by
      rw [take_snoc hqi, List.foldl_append]; rfl
    generalize (qs.take i).foldl (fitStep wd) [0] = es at hl4 hfold
    obtain ⟨q', hq', hvq⟩ := Paired.get' hv hvi
    rw [List.getElem?_map, hqi] at hq'
    simp only [Option.map_some, Option.some.injEq] at hq'
    subst hq'
    have hes : us.length = es.length := Paired.len' hl4
    ktr_unf
    refine nm_loc X4.ev (by rfl) ?_
    refine nm_loc X4.ev hs1 ?_
    cases q with
    | none =>
      have hvq : v = .ref st := hvq
      subst hvq
      refine wpAny_is_ref_self ?_
      ktr_unf
      first | refine pif_t rfl ?_ | refine wif_t rfl ?_ | rw [if_pos rfl]
      ktr_unf
      refine lc (cl := [("ends", L + 2)]) (cmo := cm₁) (fun _ _ vs ys => IV ys (((List.range (wd.length + 1)).take vs.length).filter fun e => es ≠ [] ∧ es.headD 0 ≤ e)) (by rfl) (by rfl) (by decide) (.inl ⟨by rfl, fun _ => by rfl⟩) (fun _ _ _ _ _ _ h => h) (fun _ _ => IV.nil) ?_
      ktr_unf
      refine nm_blt (v := .type "range") C4 (by rfl) rfl ?_
      ktr_unf
      refine nm_blt (v := .builtin "len") C4 (by rfl) rfl ?_
      ktr_unf
      refine nm_cell X4.ev hs2 ?_
      ktr_unf
      refine len_S (l := wd) (by (first | lia | omega)) ?_
      ktr_unf
      refine call_rng R4.hd (by (first | lia | omega)) (by (first | lia | omega)) fun a h5 t5 k5 hS => ?_
      rw [show ((wd.length : Int) + 1).toNat = wd.length + 1 by (first | lia | omega)] at hS
      refine ⟨_, _, _, hS, ?_, ?_, ?_, ?_⟩
      · rw [sizeLine_is]; (first | lia | omega)
      · exact (X4.ev.kp k5).cells ⟨rfl, trivial⟩
      · intro Cc pv vs ys v s₃ m cm E' hlt hP _ hJ hk _ _ X6 hm _ hcm
        refine cutQ fun P₀ hP₀ => ?_
        have hm := hm (by rfl)
        obtain ⟨u, rfl⟩ := hP
        ktr_unf
        refine nm_cell X6 (by rw [hcm _ (by rfl)]; exact hl1) ?_
        ktr_unf
        refine new_list (fun l7 h7 _ k7 n7 p7 => ?_) (by rw [sizeLine_is]; exact Nat.le_of_ble_eq_true rfl)
        have pl7 := pl_kp (pl_kp (pl_kp hl2 k5) hk) k7
        refine ne_nil pl7 p7 (by have := R4.un; (first | lia | omega)) ?_
        ktr_unf
        have eL : (List.range (wd.length + 1))[vs.length]? = some vs.length := by rw [List.getElem?_range hlt]
        have eT : ((List.range (wd.length + 1)).take (vs ++ [Value.int (vs.length : Int) u]).length).filter (fun e => es ≠ [] ∧ es.headD 0 ≤ e) = (((List.range (wd.length + 1)).take vs.length).filter (fun e => es ≠ [] ∧ es.headD 0 ≤ e)) ++ [vs.length].filter (fun e => es ≠ [] ∧ es.headD 0 ≤ e) := by
          rw [List.length_append, List.length_singleton, take_snoc eL, List.filter_append]
        cases es with
        | nil =>
          have hu0 : us = [] := List.length_eq_zero_iff.mp hes
          subst hu0
          first | refine pif_f (by simp) ?_ | refine wif_f (by simp) ?_ | rw [if_neg (by simp)]
          ktr_unf
          exact ⟨_, _, rfl, k7, by rw [if_neg (by decide), eT]; simpa using hJ⟩
        | cons e0 er =>
          cases us with
          | nil => simp at hes
          | cons u0 ur =>
          cases hl4 with
          | cons hu0 hur =>
          obtain ⟨tu, rfl⟩ := hu0
          first | refine pif_t (by simp) ?_ | refine wif_t (by simp) ?_ | rw [if_pos (by simp)]
          ktr_unf
          refine nm_loc (X6.kp k7) hm ?_
          ktr_unf
          refine nm_cell (X6.kp k7) (by rw [hcm _ (by rfl)]; exact hl1) ?_
          ktr_unf
          refine sub_list pl7 (by decide) rfl ?_ (by decide)
          ktr_unf
          by_cases hge : e0 ≤ vs.length
          · first | refine pif_t (by simp; (first | lia | omega)) ?_ | refine wif_t (by simp; (first | lia | omega)) ?_ | rw [if_pos (by simp; (first | lia | omega))]
            ktr_unf
            refine ⟨_, _, rfl, k7, ?_⟩
            first | refine pif_t rfl ?_ | refine wif_t rfl ?_ | rw [if_pos rfl]
            refine nm_loc (X6.kp k7) hm ?_
            refine ⟨_, _, rfl, Kp.refl _, ?_⟩
            rw [eT]
            simpa [hge] using hJ.snoc
          · first | refine pif_f (by simp; (first | lia | omega)) ?_ | refine wif_f (by simp; (first | lia | omega)) ?_ | rw [if_neg (by simp; (first | lia | omega))]
            ktr_unf
            refine ⟨_, _, rfl, k7, ?_⟩
            first | refine pif_f (by decide) ?_ | refine wif_f (by decide) ?_ | rw [if_neg (by decide)]
            rw [eT]
            simpa [hge] using hJ
      · intro D h6 t6 ys vs pv hD hk hl hlen hP hJ _ _
        rw [hlen, List.take_of_length_le (by rw [List.length_range]; (first | lia | omega))] at hJ
        refine st_cell ((X4.kp k5).kp hk) fun h7 X7 k7 => ?_
        ktr_unf
        have kk := ((k5.trans hk).ko.trans k7).z []
        refine ⟨h7, _, _, _, rfl, X7, kk, hs1, hs2, D, ys, ?_, rfl, pl_ko hl k7, ?_, ?_⟩
        · rintro rfl; obtain ⟨sl, e⟩ := k5.on _ _ hIl; rw [hD] at e; cases e
        · have := Paired.len' hJ
          rw [this]
          exact Nat.le_trans (List.length_filter_le _ _) (by rw [List.length_range]; (first | lia | omega))
        · rw [hfold]; exact hJ
    | some c =>
      obtain ⟨u, rfl⟩ := (hvq : ∃ t, v = .str (S (tx c)) t)
      have hc := hsg c (List.mem_of_getElem? hqi)
      refine wpAny_is_other (by rfl) (fun e => nomatch e) ?_
      ktr_unf
      first | refine pif_f (by decide) ?_ | refine wif_f (by decide) ?_ | rw [if_neg (by decide)]
      refine wpAny_execs_cons ?_
      refine wpAny_Assign_Name ?_
      refine wpAny_mono (Q := fun v s' => ∃ tk t5, v = .str (S [c]) tk ∧ s' = { s₂ with toks := t5 }) ?_ ?_ (fun _ _ e => e)
      · ktr_unf
        refine nm_loc X4.ev (by rfl) ?_
        ktr_unf
        rcases hc with rfl | rfl | rfl
        · refine it_S (l := [97]) (j := 0) (by decide) rfl (Nat.le_of_ble_eq_true rfl) ?_
          ktr_unf
          first | refine pif_f (by rw [o_br, S_beq]; decide) ?_ | refine wif_f (by rw [o_br, S_beq]; decide) ?_ | rw [if_neg (by rw [o_br, S_beq]; decide)]
          ktr_unf
          refine nm_loc X4.ev (by rfl) ?_
          ktr_unf
          refine neg_int ?_
          refine it_S (l := [97]) (j := 0) (by decide) rfl (Nat.le_of_ble_eq_true rfl) ?_
          exact ⟨_, _, rfl, rfl⟩
        · refine it_S (l := [91, 42, 93]) (j := 0) (by decide) rfl (Nat.le_of_ble_eq_true rfl) ?_
          ktr_unf
          first | refine pif_t (by rw [o_br, S_beq]; decide) ?_ | refine wif_t (by rw [o_br, S_beq]; decide) ?_ | rw [if_pos (by rw [o_br, S_beq]; decide)]
          ktr_unf
          refine nm_loc X4.ev (by rfl) ?_
          ktr_unf
          refine neg_int ?_
          refine it_S (l := [91, 42, 93]) (j := 1) (by decide) rfl (Nat.le_of_ble_eq_true rfl) ?_
          exact ⟨_, _, rfl, rfl⟩
        · refine it_S (l := [91, 92, 91, 93]) (j := 0) (by decide) rfl (Nat.le_of_ble_eq_true rfl) ?_
          ktr_unf
          first | refine pif_t (by rw [o_br, S_beq]; decide) ?_ | refine wif_t (by rw [o_br, S_beq]; decide) ?_ | rw [if_pos (by rw [o_br, S_beq]; decide)]
          ktr_unf
          refine nm_loc X4.ev (by rfl) ?_
          ktr_unf
          refine neg_int ?_
          refine it_S (l := [91, 92, 91, 93]) (j := 2) (by decide) rfl (Nat.le_of_ble_eq_true rfl) ?_
          exact ⟨_, _, rfl, rfl⟩
      · rintro v s' ⟨tk, t5, rfl, rfl⟩
        refine st_cell (s := { s₂ with toks := t5 }) X4 fun h5 X5 k5 => ?_
        ktr_unf
        refine lc (cl := [("word", L + 1), ("sign", L + 3)]) (cmo := upd cm₁ "sign" (.str (S [c]) tk)) (fun _ _ vs ys => IV ys (((es.take vs.length).filter fun e => wd[e]? = some c).map (· + 1))) (by rfl) (by rfl) (by decide) (.inl ⟨by rfl, fun _ => by rfl⟩) (fun _ _ _ _ _ _ h => h) (fun _ _ => IV.nil) ?_
        refine nm_cell X5.ev (by exact hl1) ?_
        have hl5 := pl_ko hl2 k5
        refine ⟨_, _, _, src_list R4.hd hl5, ?_, X5.ev.cells ⟨rfl, rfl, trivial⟩, ?_, ?_⟩
        · rw [sizeLine_is]; (first | lia | omega)
        · intro Cc pv vs ys v s₃ m cm E' hlt hP _ hJ hk _ _ X6 hm _ hcm
          refine cutQ fun P₀ hP₀ => ?_
          have hm := hm (by rfl)
          obtain ⟨e, hee, u1, rfl⟩ := Paired.get' hl4 hP
          ktr_unf
          refine nm_cell X6 (by rw [hcm _ (by rfl)]; exact hs2) ?_
          ktr_unf
          refine nm_loc X6 hm ?_
          ktr_unf
          refine nm_loc X6 hm ?_
          ktr_unf
          have kk7 := Kp.push s₃.heap { cls := .type "slice", data := .fields #[.int (e : Int) u1, .int ((e : Int) + 1) (s₃.toks + 1), .none] }
          refine sl_ss (l := wd) (i := e) (j := (e : Int) + 1) ⟨_, Heap.get?_push_size _ rfl, rfl, rfl⟩ (fun t7 k7 => ?_) (by (first | lia | omega))
          ktr_unf
          refine nm_cell (X6.kp kk7) (by rw [hcm _ (by rfl)]; rfl) ?_
          ktr_unf
          have eT : (((es.take (vs ++ [Value.int (e : Int) u1]).length).filter fun e => wd[e]? = some c).map (· + 1)) = (((es.take vs.length).filter fun e => wd[e]? = some c).map (· + 1)) ++ ([e].filter fun e => wd[e]? = some c).map (· + 1) := by
            rw [List.length_append, List.length_singleton, take_snoc hee, List.filter_append, List.map_append]
          refine ⟨_, _, rfl, kk7, ?_⟩
          by_cases hs : wd[e]? = some c
          · first | refine pif_t (by rw [S_beq]; simpa using (sign_at wd e c).mpr hs) ?_ | refine wif_t (by rw [S_beq]; simpa using (sign_at wd e c).mpr hs) ?_ | rw [if_pos (by rw [S_beq]; simpa using (sign_at wd e c).mpr hs)]
            ktr_unf
            refine nm_loc (X6.kp kk7) hm ?_
            ktr_unf
            refine ⟨_, _, rfl, Kp.refl _, ?_⟩
            rw [eT]
            simpa [hs] using hJ.snoc' (n := e + 1) (by push_cast; rfl)
          · rw [if_neg (by rw [S_beq]; simpa using fun q => hs ((sign_at wd e c).mp q)), eT]
            simpa [hs] using hJ
        · intro D h6 t6 ys vs pv hD hk hl hlen hP hJ _ _
          rw [hlen, hes, List.take_length] at hJ
          refine st_cell (X5.kp hk) fun h7 X7 k7 => ?_
          ktr_unf
          have kk := ((k5.trans hk.ko).trans k7).z []
          refine ⟨h7, _, _, _, rfl, X7, kk, hs1, hs2, D, ys, ?_, rfl, pl_ko hl k7, ?_, ?_⟩
          · rintro rfl; have := k5 _ _ hIl nI1 nI2; rw [hD] at this; cases this
          · have := Paired.len' hJ
            rw [this, List.length_map]
            exact Nat.le_trans (List.length_filter_le _ _) (by (first | lia | omega))
          · rw [hfold]; exact hJ
  · rintro I m₁ cm₁ h5 t5 hI X5 k5 ⟨hs1, hs2, l, us, hlI, hl1, hl2, hl3, hl4⟩
    have C5 := X5.cx C
    rw [hvl, List.take_length] at hl4
    ktr_unf
    refine nm_blt (v := .builtin "len") C5 (by rfl) rfl ?_
    ktr_unf
    refine nm_cell X5.ev hs2 ?_
    ktr_unf
    refine len_S (l := wd) (by (first | lia | omega)) ?_
    refine nm_cell X5.ev hl1 ?_
    refine in_IV hl2 hl4 ?_
    ktr_unf
    exact h _ _ X5.keep
end

section
open PySem PySem.W PySem.Calls PyProof.Rows PyProof.V
variable [Lo]

/-- the heap without its frames -/
def isFr (b : Addr) (o : Obj) : Bool := decide (Lo.n ≤ b) && (o.cls == .type "frame" && (match o.data with | .fields _ => false | _ => true))
omit [Lo] in
def strip (p : Addr → Obj → Bool) (h : Heap) : Heap := ⟨h.objs.mapIdx fun b o => if p b o then { cls := .none, data := .freed } else o, h.life⟩
omit [Lo] in
theorem get_strip (p : Addr → Obj → Bool) (h : Heap) (b : Addr) : (strip p h).get? b = (h.get? b).filter fun o => !p b o := by
  unfold strip Heap.get?
  simp only [Array.getElem?_mapIdx]
  cases e : h.objs[b]? with
  | none => rfl
  | some o =>
    simp only [Option.map_some]
    generalize hc : p b o = c
    cases c with
    | true =>
      rw [if_pos rfl]
      obtain ⟨c, d, dt, sl⟩ := o
      cases dt <;> simp [Option.filter, hc]
    | false =>
      rw [if_neg (by decide)]
      obtain ⟨c, d, dt, sl⟩ := o
      cases dt <;> simp [Option.filter, hc]
def noFr (h₀ h : Heap) : Heap := strip (fun b o => isFr b o || (h₀.get? b).isNone) h
theorem get_noFr (h₀ h : Heap) (b : Addr) : (noFr h₀ h).get? b = (h.get? b).filter fun o => !(isFr b o || (h₀.get? b).isNone) := get_strip _ _ _
theorem noFr_in {h₀ h : Heap} {b : Addr} {o : Obj} (e : (noFr h₀ h).get? b = some o) : h.get? b = some o ∧ isFr b o = false := by
  rw [get_noFr] at e
  cases q : h.get? b with
  | none => rw [q] at e; cases e
  | some o' =>
    rw [q] at e
    simp only [Option.filter] at e
    split at e
    · cases e; rename_i hc; simp at hc; exact ⟨rfl, hc.1⟩
    · cases e
theorem noFr_of {h₀ h : Heap} {b : Addr} {o o' : Obj} (e₀ : h₀.get? b = some o') (e : h.get? b = some o) (c : isFr b o = false) : (noFr h₀ h).get? b = some o := by
  rw [get_noFr, e]; simp [Option.filter, c, e₀]
theorem noFr_none {h₀ h : Heap} {b : Addr} (e : h₀.get? b = none) : (noFr h₀ h).get? b = none := by
  rw [get_noFr, e]; cases h.get? b <;> simp [Option.filter]
theorem noFr_fr {h₀ h : Heap} {b : Addr} {o : Obj} (e : h.get? b = some o) (c : isFr b o = true) : (noFr h₀ h).get? b = none := by rw [get_noFr, e]; simp [Option.filter, c]
theorem isFr_dict {b : Addr} {o : Obj} {es : Array DictEntry} {n : Nat} (c : o.cls = .type "frame") (d : o.data = .dict es n) (q : Lo.n ≤ b) : isFr b o = true := by
  unfold isFr; rw [c, d, decide_eq_true q]; rfl
theorem isFr_off {b : Addr} {o : Obj} (c : o.cls ≠ .type "frame") : isFr b o = false := by
  unfold isFr
  have : (o.cls == .type "frame") = false := by simpa using c
  rw [this, Bool.false_and, Bool.and_false]
theorem isFr_is {b : Addr} {o : Obj} (c : isFr b o = true) : Lo.n ≤ b ∧ ∀ vs, o.data ≠ .fields vs := by
  unfold isFr at c
  rw [Bool.and_eq_true, decide_eq_true_iff] at c
  exact ⟨c.1, fun vs q => by have := c.2; rw [q] at this; simp at this⟩

omit [Lo] in
theorem tc_weight (C : Addr) (rest : List Value) (kw : List (Str × Value)) : (Code.builtin "type.__call__" ⟨.ref C :: rest, kw⟩).weight = 1 := by kernel_rfl
omit [Lo] in
theorem tc_envs (C : Addr) (rest : List Value) (kw : List (Str × Value)) : (Code.builtin "type.__call__" ⟨.ref C :: rest, kw⟩).envs = [] := by kernel_rfl
omit [Lo] in
theorem tc_units (C : Addr) (rest : List Value) (kw : List (Str × Value)) : (Code.builtin "type.__call__" ⟨.ref C :: rest, kw⟩).cUnits = 1 := by kernel_rfl
theorem Rm.tc {A : Around} {d : Nat} {h : Heap} (x : Rm A (d + 1) h) (C : Addr) (rest : List Value) (kw : List (Str × Value)) : Rm (A.under (.builtin "type.__call__" ⟨.ref C :: rest, kw⟩)) d h := by
  refine ⟨?_, ?_, x.hd, ?_⟩
  · show A.depth + (Code.weight _) + d < _; rw [tc_weight]; have := x.dep; (first | lia | omega)
  · show A.units + (Code.cUnits _) + 40 * d < _; rw [tc_units]; have := x.un; (first | lia | omega)
  · obtain ⟨o, e, f⟩ := x.fr
    refine ⟨o, ?_, f⟩
    show pushEnvs (Code.envs (Code.builtin "type.__call__" ⟨.ref C :: rest, kw⟩)) A.frames = _
    rw [tc_envs, e]; rfl
section
variable {w : World} {A : Around} {E : Value → Shared → Prop} {s : Shared}
omit [Lo] in
/-- how a call ends -/
def Ends (Q : Value → Shared → Prop) (E : Value → Shared → Prop) : Result → Shared → Prop := fun r s' => match r with | .ok (.ret v) => Q v s' | .ok _ => False | .error e => E e s'
/-- a call of a def as code, what leaves it with an exception shown -/
theorem callC {a : Addr} (f : Fn w a) {body : List Stmt} {vals : List Value} {Q : Value → Shared → Prop} {d : Nat} (binds : List (Str × Value)) (m cm : Str → Option Value)
    (C : Cx w s.heap) (R : Rm A (d + 1) s.heap) (hcd : codeIn (KF w.params) f.1.code f.1.qualname = true) (hbody : f.1.body = .stmts body) (hclo : f.1.closure = [])
    (hco : f.1.scope.isCoroutine = false) (hgen : f.1.scope.isGenerator = false) (hk : f.1.scope.kind = .function)
    (hbind : bindArgs f.1 ⟨vals, []⟩ = pure binds) (hm : ∀ L, bindL (envF f L).kindOf binds (fun _ => none) = m) (hcm : ∀ L, bindC (envF f L).kindOf binds (fun _ => none) = cm)
    (hkind : (binds.all fun x => f.1.scope.names.lookup x.1 == some .local || (f.1.scope.names.lookup x.1 == some .cell && ((cellsFrom 0 f.1.scope.names []).lookup x.1).isSome)) = true)
    (h : ∀ L h₁ t₁, Bd s.heap (envF f L) m cm h₁ → Rm (A.deeper (envF f L)) d h₁ → Cx w h₁ →
        wpAny (model PW w) (A.deeper (envF f L)) (execs body (envF f L)) (fun f s' => Q (match f with | .ret v => v | _ => .none) s')
          (fun e s' => wpAny (model PW w) (A.deeper (envF f L)) (leaving (envF f L) e) (fun _ s'' => E e s'') (fun e' s'' => E e' s'') s') { s with heap := h₁, toks := t₁ }) :
    codeAny (model PW w) A (.call (.ref a) ⟨vals, []⟩) (Ends Q E) s := by
  obtain ⟨oc, od, sl, eo⟩ := f.2
  refine enter C R.room (C.k _ _ eo) rfl (codeRec_of C.k hcd) hbody hclo ?_ hco hgen hk
  rw [hbind]
  refine wpAny_pure ⟨Kp.refl _, fun x hx => ?_, fun h₁ t₁ X => ?_⟩
  · have q := List.all_eq_true.mp hkind x hx
    rcases Bool.or_eq_true_iff.mp q with q | q
    · exact .inl (beq_iff_eq.mp q)
    · obtain ⟨q1, q2⟩ := Bool.and_eq_true_iff.mp q
      exact .inr ⟨beq_iff_eq.mp q1, cells_some _ _ _ _ _ _ id q2⟩
  · rw [hm, hcm] at X
    exact h _ h₁ t₁ X ((R.kp X.keep).deeper hk (X.frame rfl)) (C.up X.keep)
/-- an object of a class of the text is made -/
theorem mk_obj {C fI : Addr} {rest : List Value} {Q : Value → Shared → Prop} (X : Cx w s.heap) (hm : makesIn (KF w.params) C = true)
    (hi : findIn (KF w.params) (.ref C) "__init__" = some (some (.ref fI))) (hf : typeIn (KF w.params) (.ref fI) = some (.type "function"))
    (h : ∀ x dx h', Kp s.heap h' → s.heap.get? x = none → s.heap.get? dx = none → h'.get? x = some (instObj C dx) → h'.get? dx = some emptyDict → dx ≠ x →
      codeAny (model PW w) (A.under (.builtin "type.__call__" ⟨.ref C :: rest, []⟩)) (.call (.ref fI) ⟨.ref x :: rest, []⟩) (Ends (fun v s' => v = .none ∧ Q (.ref x) s') E) { s with heap := h' }) :
    wpAny (model PW w) A (call (.ref C) rest) Q E s := by
  refine wpAny_call ?_
  obtain ⟨hh, g, d, t, os⟩ := s
  refine make_core (makes_of X.k hm) (looks_findIn X.k hi) (fun self => bind_fn X.k self hf) (.inl rfl) ?_
  have hx : ((hh.push emptyDict).push (instObj C hh.objs.size)).get? (hh.objs.size + 1) = some (instObj C hh.objs.size) := by heap_get
  have hd : ((hh.push emptyDict).push (instObj C hh.objs.size)).get? hh.objs.size = some emptyDict := by heap_get
  refine codeAny_mono (h (hh.objs.size + 1) hh.objs.size _ ((Kp.push hh _).trans (Kp.push _ _)) (ge_none (Nat.le_succ _)) (size_none _) hx hd (Nat.ne_of_lt (Nat.lt_succ_self _))) fun r s' z => ?_
  rcases r with e | (v | _ | _ | _) <;> exact z
end
end

section
open PySem PySem.W PySem.Calls PyProof.Rows PyProof.V
variable [Lo]
omit [Lo] in
abbrev boundB (cls id : String) (a : Addr) : Obj := { cls := .type cls, data := .fields #[.builtin id, .ref a] }
omit [Lo] in
theorem md_get : typeLookup (.type "method_descriptor") "__get__" = pure (some (.builtin "method_descriptor.__get__")) := by rw [typeLookup_type, builtinLookup_eq_fast]; kernel_rfl
omit [Lo] in
theorem md_set : typeLookup (.type "method_descriptor") "__set__" = pure none := by rw [typeLookup_type, builtinLookup_eq_fast]; kernel_rfl
omit [Lo] in
theorem md_del : typeLookup (.type "method_descriptor") "__delete__" = pure none := by rw [typeLookup_type, builtinLookup_eq_fast]; kernel_rfl
omit [Lo] in
theorem md_slot : Slot "method_descriptor" "__get__" "method_descriptor.__get__" :=
  .of (owner := "method_descriptor") (n := "__get__") (by rw [typeLookup_type, builtinLookup_eq_fast]; kernel_rfl) (by decide +kernel) (by decide +kernel) (by decide +kernel)
    (by first | exact .inl (by decide +kernel) | exact .inr (by decide +kernel)) (by rw [isSubtype_type]; kernel_rfl)
omit [Lo] in
theorem md_entry : entryFor table "method_descriptor.__get__" = some Builtin.«method_descriptor.__get__» := entryFor_of_tree (by kernel_rfl)
omit [Lo] in
theorem md_args (a b c : Value) : argsOk "method_descriptor.__get__" ⟨[a, b, c], []⟩ := by unfold argsOk; kernel_rfl
omit [Lo] in
theorem wd_get : typeLookup (.type "wrapper_descriptor") "__get__" = pure (some (.builtin "wrapper_descriptor.__get__")) := by rw [typeLookup_type, builtinLookup_eq_fast]; kernel_rfl
omit [Lo] in
theorem wd_set : typeLookup (.type "wrapper_descriptor") "__set__" = pure none := by rw [typeLookup_type, builtinLookup_eq_fast]; kernel_rfl
omit [Lo] in
theorem wd_del : typeLookup (.type "wrapper_descriptor") "__delete__" = pure none := by rw [typeLookup_type, builtinLookup_eq_fast]; kernel_rfl
omit [Lo] in
theorem wd_slot : Slot "wrapper_descriptor" "__get__" "wrapper_descriptor.__get__" :=
  .of (owner := "wrapper_descriptor") (n := "__get__") (by rw [typeLookup_type, builtinLookup_eq_fast]; kernel_rfl) (by decide +kernel) (by decide +kernel) (by decide +kernel)
    (by first | exact .inl (by decide +kernel) | exact .inr (by decide +kernel)) (by rw [isSubtype_type]; kernel_rfl)
omit [Lo] in
theorem wd_entry : entryFor table "wrapper_descriptor.__get__" = some Builtin.«wrapper_descriptor.__get__» := entryFor_of_tree (by kernel_rfl)
omit [Lo] in
theorem wd_args (a b c : Value) : argsOk "wrapper_descriptor.__get__" ⟨[a, b, c], []⟩ := by unfold argsOk; kernel_rfl
omit [Lo] in
theorem type_list_contains : typeOf (.builtin "list.__contains__") = pure (.type "wrapper_descriptor") := by show builtinType _ = _; rw [builtinType_eq_fast]; kernel_rfl
omit [Lo] in
theorem type_li_next : typeOf (.builtin "list_iterator.__next__") = pure (.type "wrapper_descriptor") := by show builtinType _ = _; rw [builtinType_eq_fast]; kernel_rfl
omit [Lo] in
theorem sub_li_li : isSubtype (.type "list_iterator") (.type "list_iterator") = pure true := by rw [isSubtype_type]; kernel_rfl
omit [Lo] in
theorem sub_ll : isSubtype (.type "list") (.type "list") = pure true := by rw [isSubtype_type]; kernel_rfl

omit [Lo] in
theorem li_ga_slot : Slot "list_iterator" "__getattribute__" "object.__getattribute__" :=
  .of (owner := "object") (n := "__getattribute__") (by rw [typeLookup_type, builtinLookup_eq_fast]; kernel_rfl) (by decide +kernel) (by decide +kernel) (by decide +kernel)
    (by first | exact .inl (by decide +kernel) | exact .inr (by decide +kernel)) (by rw [isSubtype_type]; kernel_rfl)
omit [Lo] in
theorem li_ga_entry : entryFor table "object.__getattribute__" = some Builtin.«object.__getattribute__» := entryFor_of_tree (by kernel_rfl)
omit [Lo] in
theorem li_ga_args (a b : Value) : argsOk "object.__getattribute__" ⟨[a, b], []⟩ := by unfold argsOk; kernel_rfl
omit [Lo] in
theorem li_nohook : typeLookup (.type "list_iterator") "__getattr__" = pure none := by rw [typeLookup_type, builtinLookup_eq_fast]; kernel_rfl
omit [Lo] in
theorem meets_ga_append (a : Addr) (xs : Array Value) (k : Nat) (sl : Array (Option Value)) (u : Tok) :
    Meets (Builtin.«object.__getattribute__» ⟨[.ref a, .str "append" u], []⟩) (fun A R s => s.heap.get? a = some { cls := .type "list", dict := none, data := .seq xs k, slots := sl } ∧ R (.ok (.ret (.ref s.heap.objs.size))) { s with heap := s.heap.push (boundB "builtin_function_or_method" "list.append" a) }) :=
  Meets.of_wp fun prog w A R s hs => by
    obtain ⟨hp, g, d, tk, os⟩ := s
    obtain ⟨hx, hs⟩ := hs
    have hT : (⟨hp, g, d, tk, os⟩ : Shared).TypeIs (.ref a) "list" := ⟨_, hx, rfl⟩
    have f1 := F.slot_list_append.lookup
    have f2 := F.type_list_append
    have f3 := md_get
    have f4 := md_set
    have f5 := md_del
    unfold Builtin.«object.__getattribute__»
    repeat (any_goals (first | assumption | wp_step))
    refine codeAny_call_builtin md_slot.plain md_entry (md_slot.check _ _ _ _ _ _ _ _ f2 (md_args _ _ _) ?_)
    have f6 : isSubtype (.type "list") (.type "list") = pure true := sub_ll
    have f7 : (kfb_private% "ownerAndName") "list.append" = ("list", "append") := by first | decide +kernel | kernel_rfl
    have f8 : Manifest.toldItsClass.contains "list.append" = false := by decide +kernel
    unfold Builtin.«method_descriptor.__get__»
    refine wpAny_bind (wpAny_of_eq (a := (.builtin "list.append", some (.ref a), some (.type "list"))) (by first | rfl | kernel_rfl) ?_)
    simp only [f8]
    refine KFB.if_not rfl ?_
    refine wpAny_bind (m := (kfb_private% "checkInstance") (.builtin "list.append") (.ref a)) ?_
    refine wpAny_bind (wpAny_of_eq (a := ((Str.ofString "append", Value.type "list") : Str × Value)) ?f9 ?_)
    case f9 =>
      show pure ((((kfb_private% "ownerAndName") "list.append").2 : Str), Value.type ((kfb_private% "ownerAndName") "list.append").1) = _
      rw [f7]
    refine wpAny_bind (wpAny_isInstance hT f6 ?_)
    refine KFB.if_not rfl (wpAny_pure ?_)
    exact wpAny_bind (wpAny_newObj_type (wpAny_pure (wpAny_pure ⟨_, rfl, hs⟩)))
theorem get_append {w : World} {A : Around} {E : Value → Shared → Prop} {s : Shared} {a : Addr} {xs : Array Value} {k : Nat} {sl : Array (Option Value)} {Q : Value → Shared → Prop} (hx : s.heap.get? a = some { cls := .type "list", dict := none, data := .seq xs k, slots := sl })
    (h : ∀ b h', Kp s.heap h' → s.heap.get? b = none → h'.get? b = some (boundB "builtin_function_or_method" "list.append" a) → Q (.ref b) { s with heap := h', toks := s.toks + 1 }) :
    wpAny (model PW w) A (getAttr (.ref a) "append" true) Q E s := by
  have hq := h _ _ (Kp.push s.heap (boundB "builtin_function_or_method" "list.append" a)) (size_none _) (Heap.get?_push_size _ rfl)
  obtain ⟨hp, g, d, tk, os⟩ := s
  have hT : ∀ tk', (⟨hp, g, d, tk', os⟩ : Shared).TypeIs (.ref a) "list" := fun _ => ⟨_, hx, rfl⟩
  have f3 := F.slot_list_getattribute.lookup
  have f4 := F.slot_list_getattribute.bind (.ref a)
  have f5 := am_list_getattr_none
  unfold getAttr getAttrBy
  repeat (any_goals (first | assumption | exact hT _ | ((with_reducible show wpAny _ _ (call (Value.builtin _) _ _) _ _ _); refine call_meets F.slot_list_getattribute (hT _) am_entry_list_getattribute (F.args_list_getattribute_2 _ _) (meets_ga_append a xs k sl _) ⟨hx, ?_⟩) | wp_step))
  exact wpAny_pure hq
omit [Lo] in
theorem meets_ga_contains (a : Addr) (xs : Array Value) (k : Nat) (sl : Array (Option Value)) (u : Tok) :
    Meets (Builtin.«object.__getattribute__» ⟨[.ref a, .str "__contains__" u], []⟩) (fun A R s => s.heap.get? a = some { cls := .type "list", dict := none, data := .seq xs k, slots := sl } ∧ R (.ok (.ret (.ref s.heap.objs.size))) { s with heap := s.heap.push (boundB "method-wrapper" "list.__contains__" a) }) :=
  Meets.of_wp fun prog w A R s hs => by
    obtain ⟨hp, g, d, tk, os⟩ := s
    obtain ⟨hx, hs⟩ := hs
    have hT : (⟨hp, g, d, tk, os⟩ : Shared).TypeIs (.ref a) "list" := ⟨_, hx, rfl⟩
    have f1 := F.slot_list_contains.lookup
    have f2 := type_list_contains
    have f3 := wd_get
    have f4 := wd_set
    have f5 := wd_del
    unfold Builtin.«object.__getattribute__»
    repeat (any_goals (first | assumption | wp_step))
    refine codeAny_call_builtin wd_slot.plain wd_entry (wd_slot.check _ _ _ _ _ _ _ _ f2 (wd_args _ _ _) ?_)
    have f6 : isSubtype (.type "list") (.type "list") = pure true := sub_ll
    have f7 : (kfb_private% "ownerAndName") "list.__contains__" = ("list", "__contains__") := by first | decide +kernel | kernel_rfl
    unfold Builtin.«wrapper_descriptor.__get__»
    refine wpAny_bind (wpAny_of_eq (a := (.builtin "list.__contains__", some (.ref a), some (.type "list"))) (by first | rfl | kernel_rfl) ?_)
    dsimp only
    refine wpAny_bind (m := (kfb_private% "checkInstance") (.builtin "list.__contains__") (.ref a)) ?_
    refine wpAny_bind (wpAny_of_eq (a := ((Str.ofString "__contains__", Value.type "list") : Str × Value)) ?f9 ?_)
    case f9 =>
      show pure ((((kfb_private% "ownerAndName") "list.__contains__").2 : Str), Value.type ((kfb_private% "ownerAndName") "list.__contains__").1) = _
      rw [f7]
    refine wpAny_bind (wpAny_isInstance hT f6 ?_)
    refine KFB.if_not rfl (wpAny_pure ?_)
    exact wpAny_bind (wpAny_newObj_type (wpAny_pure (wpAny_pure ⟨_, rfl, hs⟩)))
theorem get_contains {w : World} {A : Around} {E : Value → Shared → Prop} {s : Shared} {a : Addr} {xs : Array Value} {k : Nat} {sl : Array (Option Value)} {Q : Value → Shared → Prop} (hx : s.heap.get? a = some { cls := .type "list", dict := none, data := .seq xs k, slots := sl })
    (h : ∀ b h', Kp s.heap h' → s.heap.get? b = none → h'.get? b = some (boundB "method-wrapper" "list.__contains__" a) → Q (.ref b) { s with heap := h', toks := s.toks + 1 }) :
    wpAny (model PW w) A (getAttr (.ref a) "__contains__" true) Q E s := by
  have hq := h _ _ (Kp.push s.heap (boundB "method-wrapper" "list.__contains__" a)) (size_none _) (Heap.get?_push_size _ rfl)
  obtain ⟨hp, g, d, tk, os⟩ := s
  have hT : ∀ tk', (⟨hp, g, d, tk', os⟩ : Shared).TypeIs (.ref a) "list" := fun _ => ⟨_, hx, rfl⟩
  have f3 := F.slot_list_getattribute.lookup
  have f4 := F.slot_list_getattribute.bind (.ref a)
  have f5 := am_list_getattr_none
  unfold getAttr getAttrBy
  repeat (any_goals (first | assumption | exact hT _ | ((with_reducible show wpAny _ _ (call (Value.builtin _) _ _) _ _ _); refine call_meets F.slot_list_getattribute (hT _) am_entry_list_getattribute (F.args_list_getattribute_2 _ _) (meets_ga_contains a xs k sl _) ⟨hx, ?_⟩) | wp_step))
  exact wpAny_pure hq
omit [Lo] in
theorem meets_ga_linext (a : Addr) (xs : Array Value) (sl : Array (Option Value)) (u : Tok) :
    Meets (Builtin.«object.__getattribute__» ⟨[.ref a, .str "__next__" u], []⟩) (fun A R s => s.heap.get? a = some { cls := .type "list_iterator", dict := none, data := .fields xs, slots := sl } ∧ R (.ok (.ret (.ref s.heap.objs.size))) { s with heap := s.heap.push (boundB "method-wrapper" "list_iterator.__next__" a) }) :=
  Meets.of_wp fun prog w A R s hs => by
    obtain ⟨hp, g, d, tk, os⟩ := s
    obtain ⟨hx, hs⟩ := hs
    have hT : (⟨hp, g, d, tk, os⟩ : Shared).TypeIs (.ref a) "list_iterator" := ⟨_, hx, rfl⟩
    have f1 := slot_listiter_next.lookup
    have f2 := type_li_next
    have f3 := wd_get
    have f4 := wd_set
    have f5 := wd_del
    unfold Builtin.«object.__getattribute__»
    repeat (any_goals (first | assumption | wp_step))
    refine codeAny_call_builtin wd_slot.plain wd_entry (wd_slot.check _ _ _ _ _ _ _ _ f2 (wd_args _ _ _) ?_)
    have f6 : isSubtype (.type "list_iterator") (.type "list_iterator") = pure true := sub_li_li
    have f7 : (kfb_private% "ownerAndName") "list_iterator.__next__" = ("list_iterator", "__next__") := by first | decide +kernel | kernel_rfl
    unfold Builtin.«wrapper_descriptor.__get__»
    refine wpAny_bind (wpAny_of_eq (a := (.builtin "list_iterator.__next__", some (.ref a), some (.type "list_iterator"))) (by first | rfl | kernel_rfl) ?_)
    dsimp only
    refine wpAny_bind (m := (kfb_private% "checkInstance") (.builtin "list_iterator.__next__") (.ref a)) ?_
    refine wpAny_bind (wpAny_of_eq (a := ((Str.ofString "__next__", Value.type "list_iterator") : Str × Value)) ?f9 ?_)
    case f9 =>
      show pure ((((kfb_private% "ownerAndName") "list_iterator.__next__").2 : Str), Value.type ((kfb_private% "ownerAndName") "list_iterator.__next__").1) = _
      rw [f7]
    refine wpAny_bind (wpAny_isInstance hT f6 ?_)
    refine KFB.if_not rfl (wpAny_pure ?_)
    exact wpAny_bind (wpAny_newObj_type (wpAny_pure (wpAny_pure ⟨_, rfl, hs⟩)))
theorem get_linext {w : World} {A : Around} {E : Value → Shared → Prop} {s : Shared} {a : Addr} {xs : Array Value} {sl : Array (Option Value)} {Q : Value → Shared → Prop} (hx : s.heap.get? a = some { cls := .type "list_iterator", dict := none, data := .fields xs, slots := sl })
    (h : ∀ b h', Kp s.heap h' → s.heap.get? b = none → h'.get? b = some (boundB "method-wrapper" "list_iterator.__next__" a) → Q (.ref b) { s with heap := h', toks := s.toks + 1 }) :
    wpAny (model PW w) A (getAttr (.ref a) "__next__" true) Q E s := by
  have hq := h _ _ (Kp.push s.heap (boundB "method-wrapper" "list_iterator.__next__" a)) (size_none _) (Heap.get?_push_size _ rfl)
  obtain ⟨hp, g, d, tk, os⟩ := s
  have hT : ∀ tk', (⟨hp, g, d, tk', os⟩ : Shared).TypeIs (.ref a) "list_iterator" := fun _ => ⟨_, hx, rfl⟩
  have f3 := li_ga_slot.lookup
  have f4 := li_ga_slot.bind (.ref a)
  have f5 := li_nohook
  unfold getAttr getAttrBy
  repeat (any_goals (first | assumption | exact hT _ | ((with_reducible show wpAny _ _ (call (Value.builtin _) _ _) _ _ _); refine call_meets li_ga_slot (hT _) li_ga_entry (li_ga_args _ _) (meets_ga_linext a xs sl _) ⟨hx, ?_⟩) | wp_step))
  exact wpAny_pure hq
end

section
open PySem PySem.W PySem.Calls PyProof.Rows PyProof.V
variable [Lo]
omit [Lo] in
def IsB (h : Heap) (u : Addr) (id : String) (a : Addr) : Prop := ∃ c, (c = "builtin_function_or_method" ∨ c = "method-wrapper") ∧ h.get? u = some (boundB c id a)
theorem IsB.kp {h h' : Heap} {u a : Addr} {id : String} (x : IsB h u id a) (k : Kp h h') : IsB h' u id a := by
  obtain ⟨c, hc, e⟩ := x
  refine ⟨c, hc, k.off _ _ e ?_⟩
  rcases hc with rfl | rfl <;> exact cn _ _ (by decide)
omit [Lo] in
theorem IsB.ko {h h' : Heap} {u a : Addr} {id : String} (x : IsB h u id a) (k : Ko h h') : IsB h' u id a := by
  obtain ⟨c, hc, e⟩ := x
  refine ⟨c, hc, k _ _ e ?_ ?_⟩ <;> rcases hc with rfl | rfl <;> exact cn _ _ (by decide)
section
variable {w : World} {A : Around} {E : Value → Shared → Prop} {s : Shared}
omit [Lo] in
theorem callW_fields {pos : Pos} {u : Addr} {first : List Value} {args : List (Bool × Sem Value)} {Q : Value → Shared → Prop} (hplain : args.any (·.1) = false)
    (h : wpAny (model PW w) A (evalArgs (.ref u) true args []) (fun x s₁ => (∃ id a, IsB s₁.heap u id a) ∧ wpAny (model PW w) A (call (.ref u) (first ++ x.pos) x.kw) Q E s₁) E s) : wpAny (model PW w) A (callWith pos (.ref u) first args []) Q E s := by
  unfold callWith
  refine wpAny_bind (wpAny_holding (wpAny_mono h (fun x s₁ h₁ => wpAny_bind (wpAny_standAt ?_)) fun _ _ x => x))
  obtain ⟨⟨id, a, c, hc, ho⟩, hcall⟩ := h₁
  simp only [hplain, List.any_nil, Bool.or_false]
  refine wpAny_bind (m := keeperOf (.ref u)) ?_
  unfold keeperOf
  refine wpAny_bind (wpAny_load ho ?_)
  have e1 : (Value.type c != Value.type "method") = true := by rcases hc with rfl | rfl <;> decide
  have e2 : (Value.type c == Value.type "builtin_function_or_method" || Value.type c == Value.type "method-wrapper") = true := by rcases hc with rfl | rfl <;> decide
  simp only [e1, e2, if_true]
  refine wpAny_pure ?_
  exact wpAny_bind (wpAny_mono hcall (fun r s₂ hr => wpAny_bind (wpAny_holding (wpAny_point (wpAny_pure hr)))) fun _ _ x => x)
omit [Lo] in
/-- a call of what a name holds, a method bound before -/
theorem callW {pos : Pos} {u : Addr} {first : List Value} {env : Env} {e : Expr} {rest : List Expr} {Q : Value → Shared → Prop}
    (h : wpAny (model PW w) A (spliced (backTo pos (starEach (e :: rest) env))) (fun vs s₁ => (∃ id a, IsB s₁.heap u id a) ∧ wpAny (model PW w) A (call (.ref u) (first ++ vs)) Q E s₁) E s)
    (he : starEach (e :: rest) env = (false, eval e env) :: starEach rest env := by rfl) (hplain : (backTo pos (starEach rest env)).any (·.1) = false := by rfl) :
    wpAny (model PW w) A (callWith pos (.ref u) first (backTo pos (starEach (e :: rest) env)) []) Q E s := by
  rw [he] at h ⊢
  refine callW_fields (by show (false || (backTo pos (starEach rest env)).any (·.1)) = false; rw [hplain]; rfl) ?_
  exact evalArgs_plain h
omit [Lo] in
theorem callW0 {pos : Pos} {u : Addr} {first : List Value} {env : Env} {Q : Value → Shared → Prop} {id : String} {a : Addr} (hb : IsB s.heap u id a)
    (h : wpAny (model PW w) A (call (.ref u) first) Q E s) : wpAny (model PW w) A (callWith pos (.ref u) first (backTo pos (starEach [] env)) []) Q E s := by
  refine callW_fields rfl ?_
  exact evalArgs_nil3 ⟨⟨id, a, hb⟩, by simpa using h⟩

omit [Lo] in
/-- bound list.__contains__ -/
theorem chk_contains (a : Addr) (v : Value) : checkBoundCall "list.__contains__" ⟨[.ref a, v], []⟩ = pure () := by kernel_rfl
omit [Lo] in
theorem chk_linext (a : Addr) : checkBoundCall "list_iterator.__next__" ⟨[.ref a], []⟩ = pure () := by kernel_rfl
omit [Lo] in
theorem call_B {u a : Addr} {id : String} {vals : List Value} {B : Builtin} {Q : Value → Shared → Prop} (hb : IsB s.heap u id a) (hp : plainId id = true) (he : entryFor table id = some B)
    (hc : ∀ (A' : Around) (P : Unit → Shared → Prop) (E' : Value → Shared → Prop), P () s → wpAny (model PW w) A' (checkBoundCall id ⟨.ref a :: vals, []⟩) P E' s)
    (h : wpAny (model PW w) A.in1 (B ⟨.ref a :: vals, []⟩) (fun fin s' => match fin with | .done f => Ends Q E (.ok f) s' | .again c' => c'.quiet = true ∧ codeAny (model PW w) A c' (Ends Q E) s') (fun e s' => Ends Q E (.error e) s') s) :
    wpAny (model PW w) A (call (.ref u) vals) Q E s := by
  obtain ⟨c, hcc, ho⟩ := hb
  refine wpAny_call (codeAny_of_tree ?_)
  show wpAny _ _ (callAny (.ref u) _) _ _ _
  refine wpAny_bind (wpAny_load ho ?_)
  have e1 : (Value.type c == Value.type "method" || Value.type c == Value.type "builtin_function_or_method" || Value.type c == Value.type "method-wrapper") = true := by rcases hcc with rfl | rfl <;> decide
  have e2 : (Value.type c != Value.type "method") = true := by rcases hcc with rfl | rfl <;> decide
  dsimp only
  rw [if_pos e1]
  simp only [List.getElem?_toArray, List.getElem?_cons_zero, List.getElem?_cons_succ, e2, if_true]
  refine wpAny_bind (hc _ _ _ ?_)
  refine wpAny_pure (And.intro (plainId_quiet hp _) (codeAny_builtin he ?_))
  rw [Around.under_plainId hp _]
  exact h
omit [Lo] in
theorem any_SV {vs : List Value} {ws : List (List Nat)} {l : List Nat} (hi : SV vs ws) : (vs.toArray.any fun v => match v with | .str x _ => x == S l | _ => false) = decide (l ∈ ws) := by
  have e0 : ∀ f : Value → Bool, vs.toArray.any f = vs.any f := fun f => by rw [← Array.any_toList]
  rw [e0]
  induction hi with
  | nil => rfl
  | @cons a b r r' q _ ih =>
    obtain ⟨t', rfl⟩ := q
    rw [List.any_cons]
    have e1 : ∀ f : Value → Bool, r.toArray.any f = r.any f := fun f => by rw [← Array.any_toList]
    rw [ih e1]
    show (S b == S l || _) = _
    rw [S_beq]
    by_cases h : b = l
    · subst h; simp
    · have h1 : (b == l) = false := by simpa using h
      have h2 : ¬ l = b := fun e => h e.symm
      simp only [h1, Bool.false_or, List.mem_cons, h2, false_or]
omit [Lo] in
theorem call_contains {u a : Addr} {vs : List Value} {ws : List (List Nat)} {l : List Nat} {t : Tok} {Q : Value → Shared → Prop} (hb : IsB s.heap u "list.__contains__" a) (hl : s.heap.PlainList a vs.toArray) (hi : SV vs ws)
    (h : Q (.bool (decide (l ∈ ws))) s) : wpAny (model PW w) A (call (.ref u) [.str (S l) t]) Q E s := by
  refine call_B hb (by decide +kernel) F.entry_list_contains (fun A' P E' q => wpAny_of_eq (chk_contains _ _) q) ?_
  obtain ⟨n, e⟩ := hl
  refine SeqAt.list_containsAt a vs.toArray n none #[] (.str (S l) t) (fun v => match v with | .str x _ => x == S l | _ => false) PW w A (Ends Q E) s ⟨e, ?_, ?_⟩
  · intro y hy
    obtain ⟨i, hi', rfl⟩ := List.getElem_of_mem (by simpa using hy : y ∈ vs)
    obtain ⟨l', t', e1, e2⟩ := hi.get (List.getElem?_eq_getElem hi')
    rw [e2]
    exact SeqAt.EqAt.str_str _ _ _ _
  · show Q _ s
    rw [any_SV hi]; exact h
omit [Lo] in
theorem chk_append {a : Addr} {v : Value} {A' : Around} {P : Unit → Shared → Prop} {E' : Value → Shared → Prop} {vs : Array Value} {n : Nat} (e : s.heap.get? a = some { cls := .type "list", data := .seq vs n }) (q : P () s) : wpAny (model PW w) A' (checkBoundCall "list.append" ⟨[.ref a, v], []⟩) P E' s := by
  have hT : s.TypeIs (.ref a) "list" := ⟨_, e, rfl⟩
  unfold checkBoundCall
  rw [show Manifest.signature? "list.append" = some ⟨.oneArg, "list.append", "append", .self, [⟨"object", .posOnly, true⟩]⟩ by kernel_rfl]
  rw [show builtinKind "list.append" = some .method by decide +kernel]
  dsimp only
  rw [if_neg (by decide)]
  refine wpAny_bind (wpAny_isInstance hT (U := "module") (b := false) (by rw [isSubtype_type]; kernel_rfl) ?_)
  rw [show Manifest.varargsMethods.contains "list.append" = false by decide +kernel]
  rw [if_neg (by decide)]
  refine wpAny_bind (ks_wpAny_isType_inst e (fun c q => nomatch q) ?_)
  rw [if_neg (by decide)]
  refine wpAny_bind (wpAny_typeOf hT ?_)
  exact wpAny_of_eq (a := ()) (by kernel_rfl) q
omit [Lo] in
theorem call_append {u l : Addr} {vs : List Value} {x : Value} {Q : Value → Shared → Prop} (hb : IsB s.heap u "list.append" l) (hl : s.heap.PlainList l vs.toArray) (hsz : vs.length ≤ 100000)
    (h : ∀ h', h'.PlainList l (vs ++ [x]).toArray → Heap.SameBut l s.heap h' → Q .none { s with heap := h' }) : wpAny (model PW w) A (call (.ref u) [x]) Q E s := by
  obtain ⟨n, e⟩ := hl
  refine call_B hb (by decide +kernel) F.entry_list_append (fun A' P E' q => chk_append e q) ?_
  refine list_append l vs.toArray n x (by rw [List.size_toArray, sizeLine_is]; (first | lia | omega)) PW w A (Ends Q E) s ⟨e, ?_⟩
  have e2 : (s.heap.update l (Obj.mapSeq fun xs => xs.push x)).PlainList l (vs ++ [x]).toArray :=
    ⟨n + 1, by rw [Heap.get?_update_self _ e (by rw [Obj.mapSeq_push_plain]; rfl), Obj.mapSeq_push_plain]; simp⟩
  exact h _ e2 (Heap.SameBut.update ..)
end
end

section
open PySem PySem.W PySem.Calls PyProof.Rows PyProof.V
variable [Lo]
omit [Lo] in
/-- an object of a class of the text -/
structure IsI (h : Heap) (x C : Addr) (sl : Array (Option Value)) : Prop where
  at_ : ∃ dx, h.get? x = some { cls := .ref C, dict := some dx, data := .plain, slots := sl } ∧ h.get? dx = some emptyDict ∧ dx ≠ x
theorem IsI.kp {h h' : Heap} {x C : Addr} {sl : Array (Option Value)} (i : IsI h x C sl) (k : Kp h h') : IsI h' x C sl := by
  obtain ⟨dx, a, b, c⟩ := i.at_
  exact ⟨dx, k.off _ _ a (fun q => nomatch q), k.off _ _ b (cn _ _ (by decide)), c⟩
omit [Lo] in
theorem IsI.ko {h h' : Heap} {x C : Addr} {sl : Array (Option Value)} (i : IsI h x C sl) (k : Ko h h') : IsI h' x C sl := by
  obtain ⟨dx, a, b, c⟩ := i.at_
  exact ⟨dx, k _ _ a (fun q => nomatch q) (fun q => nomatch q), k _ _ b (cn _ _ (by decide)) (cn _ _ (by decide)), c⟩
section
variable {w : World} {A : Around} {E : Value → Shared → Prop} {s : Shared}
omit [Lo] in
theorem slot_set' {K : Frag} {x C : Addr} {R : Result → Shared → Prop} {ox : Obj} {od : Option Obj} {v : Value} {p i : Nat} (X : K.In s.heap) (I : InstAt s.heap x ox C od)
    (hp : slotIn K p C = some i) (hi : i < 1000)
    (h : R (.ok (.ret .none)) { s with heap := s.heap.update x fun o => { o with slots := (o.slots ++ Array.replicate (i + 1 - o.slots.size) none).setIfInBounds i (some v) } }) :
    codeAny (model PW w) A (.call (.builtin "member_descriptor.__set__") ⟨[.ref p, .ref x, v], []⟩) R s := by
  obtain ⟨n, tn, owner, behind, tb, d, sl, cd, ho, hc, hm, hb, rfl⟩ := slot_of X hp
  obtain ⟨hh, g, dr, t, os⟩ := s
  have L0 := I.type (M := model PW w)
  have L1 := looks_mroIn (M := model PW w) X hm
  have L2 : Looks (model PW w) hh (Builtin.Slots.slotNamesOf (.ref C)) cd.slotNames := (looks_clsIn X hc).andThen .now
  have hx := I.at_
  dsimp only at ho hx L0 L1
  have f0 := looks_field (M := model PW w) ho 0 (v := .str n tn) rfl
  have f1 := looks_field (M := model PW w) ho 1 (v := owner) rfl
  have f3 := looks_field (M := model PW w) ho 3 (v := .builtin "proto.slot#set") rfl
  have f4 := looks_field (M := model PW w) ho 4 (v := .int behind tb) rfl
  refine codeAny_call_builtin KF.slot_mset.plain KF.entry_mset (KF.slot_mset.check _ _ _ _ _ _ _ _ ⟨_, ho, rfl⟩ (KF.args_mset _ _ _) ?_)
  unfold Builtin.«member_descriptor.__set__» Builtin.Getset_descriptor.descrSet Builtin.Getset_descriptor.descrStoreThrough Builtin.Getset_descriptor.descrCheckInstance Builtin.Getset_descriptor.descrNameAndClass isInstance
  have f5 : Looks (model PW w) hh (Builtin.Getset_descriptor.descrItself (.ref p)) [.ref p] := ((Looks.ld (part := none) ho).andThen .now).andThen (Looks.of_pure (by kernel_rfl))
  repeat lk
  refine ⟨Code.quiet_builtin _ (by decide +kernel), codeAny_builtin KF.entry_slotset ?_⟩
  unfold Builtin.«proto.slot#set» Builtin.Slots.target
  repeat lk
  rw [if_neg hb]
  refine wpAny_pure (wpAny_bind ?_)
  unfold setSlotAt
  dsimp only
  rw [if_neg (by rw [sizeLine_eq]; (first | lia | omega))]
  exact wpAny_updatePart hx (wpAny_pure h)
omit [Lo] in
theorem IsI.inst {h : Heap} {x C : Addr} {sl : Array (Option Value)} (i : IsI h x C sl) : ∃ ox, InstAt h x ox C (some emptyDict) ∧ ox.slots = sl ∧ h.get? x = some ox ∧ ∃ dx, ox = { cls := .ref C, dict := some dx, data := .plain, slots := sl } := by
  obtain ⟨dx, a, b, c⟩ := i.at_
  exact ⟨_, ⟨a, rfl, rfl, b⟩, rfl, a, dx, rfl⟩
omit [Lo] in
def slotPut (sl : Array (Option Value)) (i : Nat) (v : Value) : Array (Option Value) := (sl ++ Array.replicate (i + 1 - sl.size) none).setIfInBounds i (some v)
omit [Lo] in
/-- what the table says of a slot of a class of the text -/
structure SlotOk (w : World) (C : Addr) (name : Str) (p i : Nat) : Prop where
  hs : findIn (KF w.params) (.ref C) "__setattr__" = some (some (.builtin "object.__setattr__"))
  hp : plainOver (KF w.params) C = true
  ht : takerIn (KF w.params) C name = some (some (.ref p))
  hT : typeIn (KF w.params) (.ref p) = some (.type "member_descriptor")
  hsl : slotIn (KF w.params) p C = some i
  hi : i < 1000
  hga : findIn (KF w.params) (.ref C) "__getattribute__" = some (some (.builtin "object.__getattribute__"))
  hf : findObj (KF w.params) C (some emptyDict) name = some (.bind (.builtin "member_descriptor.__get__") (.ref p))
  hk : findIn (KF w.params) (.ref C) "__getattr__" = some none
theorem set_at {x C p i : Nat} {name : Str} {v : Value} {sl : Array (Option Value)} {Q : Unit → Shared → Prop} (O : SlotOk w C name p i) (X : Cx w s.heap) (I : IsI s.heap x C sl)
    (h : ∀ h', IsI h' x C (slotPut sl i v) → Heap.SameBut x s.heap h' → Q () { s with heap := h', toks := s.toks + 1 }) : wpAny (model PW w) A (setAttr (.ref x) name v) Q E s := by
  obtain ⟨dx, e1, e2, e3⟩ := I.at_
  have I' : InstAt s.heap x { cls := .ref C, dict := some dx, data := .plain, slots := sl } C (some emptyDict) := ⟨e1, rfl, rfl, e2⟩
  refine set_plain X.k I' O.hs (osa_descr (s := { s with toks := s.toks + 1 }) KF.slot_mset X.k I' O.hp O.ht O.hT (slot_set' (s := { s with toks := s.toks + 1 }) X.k I' O.hsl O.hi ?_))
  refine h _ ⟨dx, ?_, ?_, e3⟩ (Heap.SameBut.update ..)
  · exact Heap.get?_update_self _ e1 rfl
  · exact (Heap.get?_update_other _ _ (Ne.symm e3)).trans e2
theorem get_at {x C p i : Nat} {name : Str} {v : Value} {sl : Array (Option Value)} {Q : Value → Shared → Prop} (O : SlotOk w C name p i) (X : Cx w s.heap) (I : IsI s.heap x C sl) (hv : (sl[i]?).join = some v) (hh : handedIn v = true)
    (h : Q v { s with toks := s.toks + 1 }) : wpAny (model PW w) A (getAttr (.ref x) name true) Q E s := by
  obtain ⟨dx, e1, e2, e3⟩ := I.at_
  have I' : InstAt s.heap x { cls := .ref C, dict := some dx, data := .plain, slots := sl } C (some emptyDict) := ⟨e1, rfl, rfl, e2⟩
  refine get_bind X.k I' O.hga O.hf O.hk ?_
  refine wpAny_call (slot_get (s := { s with toks := s.toks + 1 }) X.k I' O.hsl hv ?_)
  show wpAny _ _ (handedOut v) _ _ _
  rw [handedOut_of hh]; exact wpAny_pure h
omit [Lo] in
theorem ok_it (w : World) : SlotOk w 71 "_it" 73 1 := ⟨rfl, rfl, rfl, rfl, rfl, by decide, rfl, rfl, rfl⟩
omit [Lo] in
theorem ok_func (w : World) : SlotOk w 71 "_func" 72 0 := ⟨rfl, rfl, rfl, rfl, rfl, by decide, rfl, rfl, rfl⟩
end
end

section
open PySem PySem.W PySem.Calls PyProof.Rows PyProof.V
variable [Lo]
omit [Lo] in
/-- a list's iterator -/
def LI (h : Heap) (it l : Addr) (i : Nat) : Prop := h.get? it = some { cls := .type "list_iterator", data := .fields #[.ref l, .int (i : Int) 0] }
theorem LI.kp {h h' : Heap} {it l : Addr} {i : Nat} (x : LI h it l i) (k : Kp h h') : LI h' it l i := k.off _ _ x (cn _ _ (by decide))
omit [Lo] in
theorem LI.ko {h h' : Heap} {it l : Addr} {i : Nat} (x : LI h it l i) (k : Ko h h') : LI h' it l i := k _ _ x (cn _ _ (by decide)) (cn _ _ (by decide))
omit [Lo] in
/-- an exception as it is made -/
def NewE (h h' : Heap) (e : Addr) (X : String) : Prop := h.get? e = none ∧ ∃ t, h'.get? e = some { cls := .type X, data := .fields #[.ref t, .none, .none, .none, .bool false, .none] }
section
variable {w : World} {A : Around} {E : Value → Shared → Prop} {s : Shared}
theorem iter_list {l : Addr} {vs : List Value} {Q : Value → Shared → Prop} (hl : s.heap.PlainList l vs.toArray)
    (h : ∀ it h', Kp s.heap h' → s.heap.get? it = none → LI h' it l 0 → Q (.ref it) { s with heap := h' }) : wpAny (model PW w) A (call (.builtin "iter") [.ref l]) Q E s := by
  refine call_function_entry (by decide +kernel) (by decide +kernel) kdk_entry_iter (kdk_args_iter _) ?_
  unfold Builtin.«iter»
  refine wpAny_bind (m := someArgs "iter" 1 2 _) (wpAny_of_eq (a := [Value.ref l]) (by first | rfl | kernel_rfl!) ?_)
  show wpAny _ _ (pyIter (.ref l) >>= _) _ _ _
  refine wpAny_bind (wpAny_pyIter_list hl.isList ?_)
  exact wpAny_pure ⟨_, rfl, h _ _ (Kp.push _ _) (size_none _) (Heap.get?_push_size _ rfl)⟩
omit [Lo] in
theorem body_item {it l : Addr} {i : Nat} {vs : List Value} {x : Value} {P : Fin → Shared → Prop} {E' : Value → Shared → Prop} (hit : LI s.heap it l i) (hl : s.heap.PlainList l vs.toArray) (hx : vs[i]? = some x)
    (h : ∀ h', LI h' it l (i + 1) → Heap.SameBut it s.heap h' → P (.done (.ret x)) { s with heap := h' }) : wpAny (model PW w) A (Builtin.«list_iterator.__next__» ⟨[.ref it], []⟩) P E' s := by
  obtain ⟨n, hl⟩ := hl
  have ho : s.heap.get? it = some _ := hit
  show wpAny _ _ (field (.ref it) 0 >>= _) _ _ s
  refine wpAny_bind (wpAny_field ho rfl (x := .ref l) rfl ?_)
  show wpAny _ _ (if (Value.ref l == Value.none) = true then _ else _) _ _ s
  rw [if_neg (show ¬ ((Value.ref l == Value.none) = true) from Bool.false_ne_true)]
  show wpAny _ _ (field (.ref it) 1 >>= _) _ _ s
  refine wpAny_bind (wpAny_field ho rfl (x := .int i 0) rfl ?_)
  show wpAny _ _ (seqItems? (.ref l) >>= _) _ _ s
  refine wpAny_bind (wpAny_seqItems hl rfl ?_)
  simp only [Int.toNat_natCast, List.getElem?_toArray, hx]
  refine wpAny_bind (wpAny_setField ho rfl (by simp) (wpAny_pure (h _ ?_ (Heap.SameBut.update ..))))
  have := Heap.get?_update_self (Obj.mapFields (·.setIfInBounds 1 (rawInt ((i : Int) + 1)))) ho rfl
  exact this
omit [Lo] in
theorem body_end {it l : Addr} {i : Nat} {vs : List Value} {P : Fin → Shared → Prop} {E' : Value → Shared → Prop} (hh : A.handled = none) (hit : LI s.heap it l i) (hl : s.heap.PlainList l vs.toArray) (hx : vs[i]? = none)
    (h : ∀ h' e, NewE s.heap h' e "StopIteration" → (∀ b o, b ≠ it → s.heap.get? b = some o → h'.get? b = some o) → E' (.ref e) { s with heap := h' }) : wpAny (model PW w) A (Builtin.«list_iterator.__next__» ⟨[.ref it], []⟩) P E' s := by
  obtain ⟨n, hl⟩ := hl
  have ho : s.heap.get? it = some _ := hit
  show wpAny _ _ (field (.ref it) 0 >>= _) _ _ s
  refine wpAny_bind (wpAny_field ho rfl (x := .ref l) rfl ?_)
  show wpAny _ _ (if (Value.ref l == Value.none) = true then _ else _) _ _ s
  rw [if_neg (show ¬ ((Value.ref l == Value.none) = true) from Bool.false_ne_true)]
  show wpAny _ _ (field (.ref it) 1 >>= _) _ _ s
  refine wpAny_bind (wpAny_field ho rfl (x := .int i 0) rfl ?_)
  show wpAny _ _ (seqItems? (.ref l) >>= _) _ _ s
  refine wpAny_bind (wpAny_seqItems hl rfl ?_)
  simp only [Int.toNat_natCast, List.getElem?_toArray, hx]
  refine wpAny_bind (wpAny_rule (wpAny_bind (wpAny_setField ho rfl (by simp) ?_)))
  show wpAny _ _ (newExc (.type "StopIteration") [] >>= _) _ _ _
  refine wpAny_bind ?_
  simp only [newExc, newTuple]
  refine wpAny_bind (wpAny_newObj_type ?_ (by size_fits))
  refine wpAny_bind (m := firstArgMember _ _) (wpAny_of_eq (a := Value.none) (by first | rfl | (simp only [firstArgMember]; rfl)) ?_)
  refine wpAny_newObj_type ?_ (by size_fits)
  simp only [raiseNew]
  refine wpAny_bind (wpAny_handled ?_)
  rw [hh]
  refine wpAny_bind (wpAny_pure (wpAny_throw ?_))
  refine h _ _ ⟨?_, _, Heap.get?_push_size _ rfl⟩ (fun b o hb e => Heap.get?_push_of_some _ (Heap.get?_push_of_some _ ?_))
  · refine ge_none ?_
    rw [Heap.size_push, Heap.size_after_update]; (first | lia | omega)
  · exact (Heap.get?_update_other _ _ (Ne.symm hb)).trans e
omit [Lo] in
theorem LI.ty {h : Heap} {it l : Addr} {i : Nat} {g : Array GenState} {d : Drawn} {t : Nat} {os : OsState} (x : LI h it l i) : Shared.TypeIs ⟨h, g, d, t, os⟩ (.ref it) "list_iterator" := ⟨_, x, rfl⟩
omit [Lo] in
theorem next_item {it l : Addr} {i : Nat} {vs : List Value} {x : Value} {Q : Value → Shared → Prop} (hit : LI s.heap it l i) (hl : s.heap.PlainList l vs.toArray) (hx : vs[i]? = some x)
    (h : ∀ h', LI h' it l (i + 1) → Heap.SameBut it s.heap h' → Q x { s with heap := h' }) : wpAny (model PW w) A (call (.builtin "next") [.ref it]) Q E s := by
  refine call_function_entry (by decide +kernel) (by decide +kernel) kdk_entry_next (kdk_args_next _) ?_
  unfold Builtin.«next»
  refine wpAny_bind (m := someArgs "next" 1 2 _) (wpAny_of_eq (a := [Value.ref it]) (by first | rfl | kernel_rfl!) ?_)
  dsimp only
  refine wpAny_bind (wpAny_specialOf (name := Str.ofString "__next__") hit.ty slot_listiter_next.lookup ?_)
  refine wpAny_ite_split (fun hab => absurd hab (by decide)) (fun _ => ?_)
  refine wpAny_bind (wpAny_callSpecial?_slot (name := Str.ofString "__next__") hit.ty slot_listiter_next (wpAny_call_entry slot_listiter_next hit.ty entry_listiter_next ?_ (args_listiter_next _)))
  exact body_item hit hl hx fun h' a b => ⟨_, rfl, wpAny_pure ⟨_, rfl, h h' a b⟩⟩
omit [Lo] in
theorem next_end {it l : Addr} {i : Nat} {vs : List Value} {Q : Value → Shared → Prop} (hh : A.handled = none) (hit : LI s.heap it l i) (hl : s.heap.PlainList l vs.toArray) (hx : vs[i]? = none)
    (h : ∀ h' e, NewE s.heap h' e "StopIteration" → (∀ b o, b ≠ it → s.heap.get? b = some o → h'.get? b = some o) → E (.ref e) { s with heap := h' }) : wpAny (model PW w) A (call (.builtin "next") [.ref it]) Q E s := by
  refine call_function_entry (by decide +kernel) (by decide +kernel) kdk_entry_next (kdk_args_next _) ?_
  unfold Builtin.«next»
  refine wpAny_bind (m := someArgs "next" 1 2 _) (wpAny_of_eq (a := [Value.ref it]) (by first | rfl | kernel_rfl!) ?_)
  dsimp only
  refine wpAny_bind (wpAny_specialOf (name := Str.ofString "__next__") hit.ty slot_listiter_next.lookup ?_)
  refine wpAny_ite_split (fun hab => absurd hab (by decide)) (fun _ => ?_)
  refine wpAny_bind (wpAny_callSpecial?_slot (name := Str.ofString "__next__") hit.ty slot_listiter_next (wpAny_call_entry slot_listiter_next hit.ty entry_listiter_next ?_ (args_listiter_next _)))
  exact body_end (by exact hh) hit hl hx h
omit [Lo] in
theorem bound_item {u it l : Addr} {i : Nat} {vs : List Value} {x : Value} {Q : Value → Shared → Prop} (hb : IsB s.heap u "list_iterator.__next__" it) (hit : LI s.heap it l i) (hl : s.heap.PlainList l vs.toArray) (hx : vs[i]? = some x)
    (h : ∀ h', LI h' it l (i + 1) → Heap.SameBut it s.heap h' → Q x { s with heap := h' }) : wpAny (model PW w) A (call (.ref u) []) Q E s := by
  refine call_B hb (by decide +kernel) entry_listiter_next (fun A' P E' q => wpAny_of_eq (chk_linext _) q) ?_
  exact body_item hit hl hx fun h' a b => h h' a b
omit [Lo] in
theorem bound_end {u it l : Addr} {i : Nat} {vs : List Value} {Q : Value → Shared → Prop} (hh : A.handled = none) (hb : IsB s.heap u "list_iterator.__next__" it) (hit : LI s.heap it l i) (hl : s.heap.PlainList l vs.toArray) (hx : vs[i]? = none)
    (h : ∀ h' e, NewE s.heap h' e "StopIteration" → (∀ b o, b ≠ it → s.heap.get? b = some o → h'.get? b = some o) → E (.ref e) { s with heap := h' }) : wpAny (model PW w) A (call (.ref u) []) Q E s := by
  refine call_B hb (by decide +kernel) entry_listiter_next (fun A' P E' q => wpAny_of_eq (chk_linext _) q) ?_
  exact body_end (by exact hh) hit hl hx fun h' e a b => h h' e a b

/-- an exception leaves a def's frame -/
theorem Rm.funFrames {h₀ h : Heap} (k : Kp h₀ h) : ∀ {l : List Env}, FrD h₀ l → h.FunFrames (noFr h₀ h) l
  | [], _ => trivial
  | env :: r, ⟨a, ⟨L, o, es, n, e1, e2, e3, e4⟩, f⟩ => by
    obtain ⟨sl, e5⟩ := k.on _ _ e2
    refine ⟨by rw [a]; decide, ⟨L, _, e1, noFr_fr e5 (isFr_dict (o := { o with slots := sl.1 }) e3 e4.1 e4.2), e5, fun vs q => ?_⟩, Rm.funFrames k f⟩
    have : o.data = .fields vs := q
    rw [e4.1] at this; cases this
theorem leave {h₀ : Heap} {env : Env} {m cm : Str → Option Value} {d : Nat} {e : Addr} {X : String} {K : Shared → Prop} (R : Rm A d h₀) (B : Bd h₀ env m cm s.heap) (hk : env.scope.kind = .function) (hf : env.frame = some env.locals)
    (hne : h₀.get? e = none) (he : ∃ t, s.heap.get? e = some { cls := .type X, data := .fields #[.ref t, .none, .none, .none, .bool false, .none] })
    (h : ∀ h', Kp h₀ h' → (∃ o, h'.get? e = some o ∧ o.cls = .type X) → K { s with heap := h' }) {E' : Value → Shared → Prop} :
    wpAny (model PW w) (A.deeper env) (leaving env (.ref e)) (fun _ s' => K s') E' s := by
  obtain ⟨outer, ho, hfr⟩ := R.fr
  obtain ⟨t, he⟩ := he
  have kk := B.keep
  obtain ⟨oL, eL, cL⟩ := B.fc
  obtain ⟨oL', es, ep, eL', dL, _⟩ := B.ev.ns
  rw [eL] at eL'; cases eL'
  have eL2 := eL
  have stays : (noFr h₀ s.heap).StaysIn s.heap := fun b o e => (noFr_in e).1
  have hff : s.heap.FunFrames (noFr h₀ s.heap) (env :: outer) := by
    refine ⟨by rw [hk]; decide, ⟨env.locals, _, hf, noFr_none B.nl, eL2, fun vs q => ?_⟩, Rm.funFrames kk hfr⟩
    have : oL.data = .fields vs := q
    rw [dL] at this; cases this
  refine wpAny_leaving_first (base := noFr h₀ s.heap) (by show A.frames.map _ = _; rw [ho]; rfl) hff hf he stays (noFr_none hne) rfl rfl fun h' L => ?_
  obtain ⟨a1, a2, a3, a4⟩ := L
  obtain ⟨oe, vs', T, oT, ts, b1, b2, _⟩ := a3
  refine h h' ⟨fun b o e1 c => a1 _ _ (noFr_of e1 (kk.off _ _ e1 c) (isFr_off c)), fun b o e1 => ?_⟩ ⟨oe, b1, b2⟩
  obtain ⟨sl1, e2⟩ := kk.on b o e1
  cases c : isFr b { o with slots := sl1.1 } with
  | true =>
    exact let ⟨sl2, e3⟩ := a4 b _ e2 (isFr_is c).2; ⟨⟨sl2, fun q => absurd (isFr_is c).1 (Nat.not_le.mpr q)⟩, e3⟩
  | false => exact ⟨sl1, a1 _ _ (noFr_of e1 e2 c)⟩
end
end

section
open PySem PySem.W PySem.Calls PyProof.Rows PyProof.V
variable [Lo]
theorem Bd.base {h₀ h₁ : Heap} {env : Env} {m cm : Str → Option Value} {h : Heap} (X : Bd h₁ env m cm h) (k : Kp h₀ h₁) : Bd h₀ env m cm h :=
  ⟨X.ev, X.fc, X.apart, X.cc, k.trans X.keep, k.none X.nl, fun n c hm => k.none (X.nc n c hm), X.lo⟩
/-- a step that changes one object that the base does not know -/
theorem Bd.ext {h₀ : Heap} {env : Env} {m cm : Str → Option Value} {h h' : Heap} {x : Addr} (X : Bd h₀ env m cm h) (hs : ∀ b o, b ≠ x → h.get? b = some o → h'.get? b = some o) (n : h₀.get? x = none) (hx : ∃ o, h.get? x = some o ∧ o.cls ≠ .type "frame" ∧ o.cls ≠ .type "cell") : Bd h₀ env m cm h' := by
  obtain ⟨o, e, n1, n2⟩ := hx
  have hL : env.locals ≠ x := fun q => by obtain ⟨o', e', c⟩ := X.fc; rw [q, e] at e'; cases e'; exact n1 c
  have hC : ∀ n c, (n, c) ∈ env.cells → c ≠ x := fun n c hm q => by obtain ⟨o', e', c'⟩ := X.cc n c hm; rw [q, e] at e'; cases e'; exact n2 c'
  exact ⟨⟨X.ev.ns.at' fun o e => hs _ _ hL e, fun n c hc => by obtain ⟨o, e1, d⟩ := X.ev.cell n c hc; exact ⟨o, hs _ _ (hC n c (mem_of_lookup hc)) e1, d⟩⟩, let ⟨o', e', c⟩ := X.fc; ⟨o', hs _ _ hL e', c⟩, X.apart,
    fun n c hm => let ⟨o', e', c'⟩ := X.cc n c hm; ⟨o', hs _ _ (hC n c hm) e', c'⟩,
    ⟨fun b o e' nf => hs _ _ (nn (n) e') (X.keep.off b o e' nf), fun b o e' => by
      obtain ⟨sl, e1⟩ := X.keep.on b o e'
      exact ⟨sl, hs _ _ (nn (n) e') e1⟩⟩, X.nl, X.nc, X.lo⟩
theorem Bd.but {h₀ : Heap} {env : Env} {m cm : Str → Option Value} {h h' : Heap} {x : Addr} (X : Bd h₀ env m cm h) (hs : Heap.SameBut x h h') (n : h₀.get? x = none) (hx : ∃ o, h.get? x = some o ∧ o.cls ≠ .type "frame" ∧ o.cls ≠ .type "cell") : Bd h₀ env m cm h' :=
  X.ext (fun b o hb e => hs.extBut b o hb e) n hx
omit [Lo] in
theorem IsI.live {h : Heap} {x C : Addr} {sl : Array (Option Value)} (i : IsI h x C sl) : ∃ o, h.get? x = some o ∧ o.cls ≠ .type "frame" ∧ o.cls ≠ .type "cell" := by
  obtain ⟨dx, a, _⟩ := i.at_; exact ⟨_, a, (fun q => nomatch q), fun q => nomatch q⟩
omit [Lo] in
theorem LI.live {h : Heap} {it l : Addr} {i : Nat} (x : LI h it l i) : ∃ o, h.get? it = some o ∧ o.cls ≠ .type "frame" ∧ o.cls ≠ .type "cell" := ⟨_, x, cn _ _ (by decide), cn _ _ (by decide)⟩

omit [Lo] in
noncomputable def f53 (w : World) : Fn w 53 := ⟨_, _, _, _, rfl⟩
set_option maxHeartbeats 4000000 in
theorem c_ff_init {w : World} {A : Around} {E : Value → Shared → Prop} {s : Shared} {Q : Value → Shared → Prop} {d : Nat} {h₀ : Heap} (C : Cx w h₀) (R : Rm A (d + 1) h₀) (k : Kp h₀ s.heap) {x u l : Addr} {vs : List Value} (hn : h₀.get? x = none)
    (I : IsI s.heap x 71 #[]) (hl : s.heap.PlainList l vs.toArray)
    (h : ∀ h' t' it, Kp h₀ h' → s.heap.get? it = none → IsI h' x 71 #[some (.ref u), some (.ref it)] → LI h' it l 0 → Q .none { s with heap := h', toks := t' }) :
    codeAny (model PW w) A (.call (.ref 53) ⟨[.ref x, .ref u, .ref l], []⟩) (Ends Q E) s := by
  refine' callC (f53 w) (d := d) [("self", .ref x), ("function", .ref u), ("iterable", .ref l)] (upd (upd (upd (fun _ => none) "self" (.ref x)) "function" (.ref u)) "iterable" (.ref l)) (fun _ => none) (C.up k) (R.kp k) ?h2 ?h3 ?h4 ?h5 ?h6 ?h7 ?h8 ?h9 ?h10 ?h11 ?_
  case h2 => rfl
  case h3 => rfl
  case h4 => rfl
  case h5 => rfl
  case h6 => rfl
  case h7 => rfl
  case h8 => rfl
  case h9 => intro _; rfl
  case h10 => intro _; rfl
  case h11 => rfl
  intro L h₁ t₁ X R' C'
  have X0 := X.base k
  ktr_unf
  refine plainObj_wpAny_Assign_Attribute ?_
  ktr_unf
  refine nm_blt (v := .builtin "iter") C' (by rfl) rfl ?_
  ktr_unf
  refine nm_loc X.ev (by rfl) ?_
  ktr_unf
  refine iter_list (pl_kp hl X.keep) fun it h2 k2 n2 i2 => ?_
  have X2 := X0.kp k2
  refine nm_loc X2.ev (by rfl) ?_
  refine set_at (ok_it w) (X2.cx C) ((I.kp X.keep).kp k2) fun h3 I3 s3 => ?_
  have X3 := X2.but s3 hn ((I.kp X.keep).kp k2).live
  ktr_unf
  refine plainObj_wpAny_Assign_Attribute ?_
  refine nm_loc X3.ev (by rfl) ?_
  refine nm_loc X3.ev (by rfl) ?_
  refine set_at (ok_func w) (X3.cx C) I3 fun h4 I4 s4 => ?_
  have X4 := X3.but s4 hn I3.live
  ktr_unf
  have hne : it ≠ x := fun q => by subst q; obtain ⟨dx, e, _⟩ := I.at_; rw [(X.keep.none n2)] at e; cases e
  refine h _ _ it X4.keep (X.keep.none n2) I4 ?_
  exact s4.extBut _ _ hne (s3.extBut _ _ hne i2)
omit [Lo] in
/-- a while whose exceptions leave the frame -/
theorem while_rule {w : World} {A : Around} {E : Value → Shared → Prop} {s : Shared} {env : Env} {test : Expr} {body orelse : List Stmt} {pos : Pos} {Q : Flow → Shared → Prop} (hE : PassesOwn (model PW w) A env E) (I : Nat → Shared → Prop) (n : Nat) (hI : I n s)
    (turn : ∀ n s, I n s → wpAny (model PW w) A (isTrue test env (eval test env)) (fun b s₂ => if b = true then wpAny (model PW w) A (execs body env) (fun f s₃ => match f with
        | .next | .cont => ∃ m, m < n ∧ I m s₃
        | .brk => Q .next s₃
        | .ret v => Q (.ret v) s₃) E s₂ else wpAny (model PW w) A (execs orelse env) (fun f s₃ => Q f s₃) E s₂) E s) :
    wpAny (model PW w) A (exec (.While test body orelse pos) env) Q E s := by
  refine wpAny_While (codeAny_whileLoop I (fun n s h => wpAny_passesOwn hE (wpAny_mono (turn n s h) (fun b s₂ h₂ => ?_) fun _ _ z => z)) n hI)
  cases b with
  | true => exact wpAny_passesOwn hE (wpAny_mono h₂ (fun f s₃ h₃ => by cases f <;> exact h₃) fun _ _ z => z)
  | false => exact wpAny_passesOwn hE (wpAny_mono h₂ (fun f s₃ h₃ => by cases f <;> exact h₃) fun _ _ z => z)
/-- between the turns of filterfalse's search -/
inductive NxW (h₀ : Heap) (env : Env) (s : Shared) (x u it l : Addr) (ws ex : List (List Nat)) (i n : Nat) (s' : Shared) : Prop
  | mk (j : Nat) (h' : Heap) (t' : Nat) (m' : Str → Option Value) (ij : i ≤ j) (e : s' = { s with heap := h', toks := t' }) (le : j ≤ ws.length) (hn : n = ws.length - j) (fl : (ws.drop i).filter (fun y => !decide (y ∈ ex)) = (ws.drop j).filter (fun y => !decide (y ∈ ex)))
    (li : LI h' it l j) (X : Bd h₀ env m' (fun _ => none) h') (a : m' "self" = some (.ref x)) (b : m' "func" = some (.ref u)) : NxW h₀ env s x u it l ws ex i n s'
omit [Lo] in
noncomputable def f67 (w : World) : Fn w 67 := ⟨_, _, _, _, rfl⟩
theorem c_ff_next {w : World} {A : Around} {E : Value → Shared → Prop} {s : Shared} {Q : Value → Shared → Prop} {d : Nat} {h₀ : Heap} (C : Cx w h₀) (R : Rm A (d + 1) h₀) (k : Kp h₀ s.heap) {x u l it l2 : Addr} {i : Nat} {vs vs2 : List Value} {ws ex : List (List Nat)} (hn : h₀.get? it = none) (hi : i ≤ ws.length)
    (I : IsI h₀ x 71 #[some (.ref u), some (.ref it)]) (hu : IsB h₀ u "list.__contains__" l2) (hl : h₀.PlainList l vs.toArray) (hv : SV vs ws) (hl2 : h₀.PlainList l2 vs2.toArray) (hv2 : SV vs2 ex) (hit : LI s.heap it l i)
    (hitem : ∀ h' t' j v l', i ≤ j → vs[j]? = some v → ws[j]? = some l' → (ws.drop i).filter (fun y => !decide (y ∈ ex)) = l' :: (ws.drop (j + 1)).filter (fun y => !decide (y ∈ ex)) → LI h' it l (j + 1) → Kp h₀ h' → Q v { s with heap := h', toks := t' })
    (hend : ∀ h' t' e, (ws.drop i).filter (fun y => !decide (y ∈ ex)) = [] → Kp h₀ h' → (∃ o, h'.get? e = some o ∧ o.cls = .type "StopIteration") → E (.ref e) { s with heap := h', toks := t' }) :
    wpAny (model PW w) A (call (.ref 67) [.ref x]) Q E s := by
  refine wpAny_call ?_
  refine' callC (f67 w) (d := d) (Q := Q) (E := E) [("self", .ref x)] (upd (fun _ => none) "self" (.ref x)) (fun _ => none) (C.up k) (R.kp k) ?h2 ?h3 ?h4 ?h5 ?h6 ?h7 ?h8 ?h9 ?h10 ?h11 ?_
  case h2 => rfl
  case h3 => rfl
  case h4 => rfl
  case h5 => rfl
  case h6 => rfl
  case h7 => rfl
  case h8 => rfl
  case h9 => intro _; rfl
  case h10 => intro _; rfl
  case h11 => rfl
  intro L h₁ t₁ X R' C'
  have X0 := X.base k
  ktr_unf
  refine Attribute_Name_ ?_
  refine nm_loc X0.ev (by rfl) ?_
  refine get_at (ok_func w) C' (I.kp X0.keep) rfl rfl ?_
  refine st_loc X0 fun h2 X2 k2 => ?_
  ktr_unf
  refine while_rule PassesOwn.leaving (NxW h₀ (envF (f67 w) L) s x u it l ws ex i) (ws.length - i)
    ⟨i, h2, _, _, Nat.le_refl _, rfl, hi, rfl, rfl, (hit.kp X.keep).ko k2, X2, rfl, rfl⟩ ?_
  rintro n s' ⟨j, h3, t3, m3, hij, rfl, hj, rfl, hflt, hit3, X3, hself, hfunc⟩
  refine cutQ fun P₀ hP₀ => ?_
  have C3 := X3.cx C
  refine isTrue_plain ?_
  refine wpAny_Constant_bool ?_
  refine wpAny_truthy_bool ?_
  refine hP₀ _ _ ?_
  first | refine pif_t rfl ?_ | refine wif_t rfl ?_ | rw [if_pos rfl]
  ktr_unf
  refine nm_blt (v := .builtin "next") C3 (by rfl) rfl ?_
  ktr_unf
  refine Attribute_Name_ ?_
  refine nm_loc X3.ev hself ?_
  refine get_at (ok_it w) C3 (I.kp X3.keep) rfl rfl ?_
  ktr_unf
  have hl3 := pl_kp hl X3.keep
  cases hx : vs[j]? with
  | none =>
    have hjl : ws.length ≤ j := by
      rw [← hv.length]
      exact List.getElem?_eq_none_iff.mp hx
    refine next_end R'.hd hit3 hl3 hx fun h4 e hne h4k => ?_
    have X4 := X3.ext h4k hn hit3.live
    refine leave R X4 (by rfl) (by rfl) (X3.keep.none hne.1) hne.2 fun h5 k5 he5 => ?_
    refine hend h5 _ e ?_ k5 he5
    rw [hflt, List.drop_eq_nil_of_le hjl]; rfl
  | some v =>
    obtain ⟨l', tk, hw', rfl⟩ := hv.get hx
    have hjl : j < ws.length := by
      rcases Nat.lt_or_ge j ws.length with q | q
      · exact q
      · rw [List.getElem?_eq_none q] at hw'; cases hw'
    have hdrop : ws.drop j = l' :: ws.drop (j + 1) := by
      rw [List.drop_eq_getElem_cons hjl]; congr 1
      rw [List.getElem?_eq_getElem hjl] at hw'; exact Option.some.inj hw'
    refine next_item hit3 hl3 hx fun h4 hit4 s4 => ?_
    have X4 := X3.but s4 hn hit3.live
    refine st_loc X4 fun h5 X5 k5 => ?_
    have C5 := X5.cx C
    have hit5 := hit4.ko k5
    ktr_unf
    refine nm_loc X5.ev (by exact hfunc) ?_
    ktr_unf
    refine wpAny_is_other (by rfl) (fun e => nomatch e) ?_
    ktr_unf
    first | refine pif_f (by decide) ?_ | refine wif_f (by decide) ?_ | rw [if_neg (by decide)]
    ktr_unf
    refine nm_loc (v := .ref u) X5.ev (by exact hfunc) ?_
    refine nm_blt (v := .type "bool") C5 (by rfl) rfl ?_
    refine wpAny_is_other (by rfl) (fun e => nomatch e) ?_
    ktr_unf
    first | refine pif_f (by decide) ?_ | refine wif_f (by decide) ?_ | rw [if_neg (by decide)]
    ktr_unf
    first | refine pif_f (by decide) ?_ | refine wif_f (by decide) ?_ | rw [if_neg (by decide)]
    ktr_unf
    refine isTrue_plain ?_
    ktr_unf
    refine nm_loc (v := .ref u) X5.ev (by exact hfunc) ?_
    refine callW ?_
    ktr_unf
    refine nm_loc X5.ev (by rfl) ?_
    ktr_unf
    have hu5 := hu.kp X5.keep
    refine ⟨⟨_, _, hu5⟩, ?_⟩
    refine call_contains hu5 (pl_kp hl2 X5.keep) hv2 ?_
    ktr_unf
    by_cases hin : l' ∈ ex
    · first | refine pif_f (by simpa using hin) ?_ | refine wif_f (by simpa using hin) ?_ | rw [if_neg (by simpa using hin)]
      ktr_unf
      refine ⟨ws.length - (j + 1), by (first | lia | omega), j + 1, h5, _, _, by (first | lia | omega), rfl, hjl, rfl, ?_, hit5, X5, hself, hfunc⟩
      rw [hflt, hdrop, List.filter_cons, if_neg (by simpa using hin)]
    · first | refine pif_t (by simpa using hin) ?_ | refine wif_t (by simpa using hin) ?_ | rw [if_pos (by simpa using hin)]
      ktr_unf
      refine nm_loc X5.ev (by rfl) ?_
      ktr_unf
      refine hitem _ _ j _ l' hij hx hw' ?_ hit5 X5.keep
      rw [hflt, hdrop, List.filter_cons, if_pos (by simpa using hin)]
end

section
open PySem PySem.W PySem.Calls PyProof.Rows PyProof.V
variable [Lo]
omit [Lo] in
/-- the heap without some addresses -/
def wo (Z : List Addr) (h : Heap) : Heap := strip (fun b _ => decide (b ∈ Z)) h
omit [Lo] in
theorem wo_get {Z : List Addr} {h : Heap} {b : Addr} (n : b ∉ Z) : (wo Z h).get? b = h.get? b := by
  unfold wo; rw [get_strip]
  cases h.get? b <;> simp [Option.filter, n]
omit [Lo] in
theorem wo_none {Z : List Addr} {h : Heap} {b : Addr} (n : b ∈ Z) : (wo Z h).get? b = none := by
  unfold wo; rw [get_strip]
  cases h.get? b <;> simp [Option.filter, n]
omit [Lo] in
theorem wo_in {Z : List Addr} {h : Heap} {b : Addr} {o : Obj} (e : (wo Z h).get? b = some o) : b ∉ Z ∧ h.get? b = some o := by
  by_cases n : b ∈ Z
  · rw [wo_none n] at e; cases e
  · exact ⟨n, (wo_get n).symm.trans e⟩
theorem kp_wo {Z : List Addr} {h₀ h : Heap} (k : Kp h₀ h) (n : ∀ z ∈ Z, h₀.get? z = none) : Kp h₀ (wo Z h) := by
  have nz : ∀ b o, h₀.get? b = some o → b ∉ Z := fun b o e q => by rw [n b q] at e; cases e
  exact ⟨fun b o e c => (wo_get (nz b o e)).trans (k.off b o e c), fun b o e => by
    obtain ⟨sl, e1⟩ := k.on b o e
    exact ⟨sl, (wo_get (nz b o e)).trans e1⟩⟩
theorem wo_kp {Z : List Addr} {h : Heap} : Kp (wo Z h) h := Kp.of fun b o e => (wo_in e).2

section
variable {w : World} {A : Around} {E : Value → Shared → Prop} {s : Shared} {x C f : Addr} {sl : Array (Option Value)}
theorem nx_inst {Q : Option Value → Shared → Prop} (X : Cx w s.heap) (I : IsI s.heap x C sl) (hs : findIn (KF w.params) (.ref C) "__next__" = some (some (.ref f))) (hf : typeIn (KF w.params) (.ref f) = some (.type "function"))
    (h : wpAny (model PW w) A (call (.ref f) [.ref x]) (fun v s' => Q (some v) s') (fun e s' => (∃ a o, e = .ref a ∧ s'.heap.get? a = some o ∧ o.cls = .type "StopIteration") ∧ Q none s') s) : wpAny (model PW w) A (pyNext (.ref x)) Q E s := by
  obtain ⟨ox, I', _⟩ := I.inst
  unfold pyNext
  refine wpAny_bind (wpAny_attempt (special_fn (name := "__next__") (args := []) X.k I' hs hf (wpAny_mono h (fun v s' hq => ?_) (fun e s' he => ?_))))
  · exact wpAny_pure hq
  · obtain ⟨⟨a, o, rfl, e1, e2⟩, hq⟩ := he
    refine wpAny_bind (wpAny_isInstance (T := "StopIteration") (b := true) ⟨o, e1, e2⟩ isSubtype_stop ?_)
    exact wpAny_pure hq
theorem it_inst {Q : Value → Shared → Prop} {g : Value} (X : Cx w s.heap) (I : IsI s.heap x C sl) (hs : findIn (KF w.params) (.ref C) "__iter__" = some (some (.ref f))) (hf : typeIn (KF w.params) (.ref f) = some (.type "function")) (hg : findIn (KF w.params) (.ref C) "__next__" = some (some g))
    (h : wpAny (model PW w) A (call (.ref f) [.ref x]) (fun v s' => v = .ref x ∧ Kp s.heap s'.heap ∧ Q (.ref x) s') E s) : wpAny (model PW w) A (pyIter (.ref x)) Q E s := by
  obtain ⟨ox, I', _⟩ := I.inst
  have fin : wpAny (model PW w) A (call (.ref f) [.ref x] >>= fun v => pure (some v)) (fun r s' => r = some (.ref x) ∧ Kp s.heap s'.heap ∧ Q (.ref x) s') E s :=
    wpAny_bind (wpAny_mono h (fun v s' h' => wpAny_pure ⟨by rw [h'.1], h'.2⟩) fun _ _ z => z)
  have one : ∀ refuse : Sem Value, wpAny (model PW w) A (callSpecialIfBoundUnlessNone? (.ref x) "__iter__" refuse) (fun r s' => r = some (.ref x) ∧ Kp s.heap s'.heap ∧ Q (.ref x) s') E s := by
    intro refuse
    simp only [callSpecialIfBoundUnlessNone?, bindSpecialIfBound?]
    refine wpAny_holding (wpAny_bind (wpAny_bind (wpAny_bind (I'.type.here ((looks_findIn X.k hs).here ?_)))))
    refine wpAny_bind (wpAny_askSetting (wpAny_ite ?_))
    have fin2 : wpAny (model PW w) A (if (Value.ref f == Value.none) = true then (refuse >>= fun v => pure (some v)) else (call (.ref f) [.ref x] >>= fun v => pure (some v))) (fun r s' => r = some (.ref x) ∧ Kp s.heap s'.heap ∧ Q (.ref x) s') E s := by
      rw [if_neg (show ¬ ((Value.ref f == Value.none) = true) from Bool.false_ne_true)]
      exact fin
    split
    · exact wpAny_bind ((bind_fn X.k _ hf).here (wpAny_pure (by exact fin2)))
    · exact wpAny_tryCatch (wpAny_bind ((bind_fn X.k _ hf).here (wpAny_pure (by exact fin2))))
  unfold pyIter
  refine wpAny_bind (wpAny_bind (I'.type.here ((looks_findIn X.k hs).here ?_)))
  show wpAny (model PW w) A (callSpecialIfBoundUnlessNone? (.ref x) "__iter__" _ >>= _) Q E s
  refine wpAny_bind (wpAny_mono (one _) (fun r s' hr => ?_) fun _ _ z => z)
  obtain ⟨rfl, k, hv⟩ := hr
  obtain ⟨ox2, I2, _⟩ := (I.kp k).inst
  refine wpAny_bind (wpAny_bind (I2.type.here ((looks_findIn (X.up k).k hg).here ?_)))
  exact wpAny_pure hv
end
omit [Lo] in
noncomputable def f60 (w : World) : Fn w 60 := ⟨_, _, _, _, rfl⟩
set_option maxHeartbeats 4000000 in
theorem c_ff_iter {w : World} {A : Around} {E : Value → Shared → Prop} {s : Shared} {Q : Value → Shared → Prop} {d : Nat} (C : Cx w s.heap) (R : Rm A (d + 1) s.heap) {x : Addr}
    (h : ∀ h' t', Kp s.heap h' → Q (.ref x) { s with heap := h', toks := t' }) : wpAny (model PW w) A (call (.ref 60) [.ref x]) Q E s := by
  refine' callK (f60 w) (d := d) [("self", .ref x)] (upd (fun _ => none) "self" (.ref x)) (fun _ => none) C R ?h2 ?h3 ?h4 ?h5 ?h6 ?h7 ?h8 ?h9 ?h10 ?h11 ?_
  case h2 => rfl
  case h3 => rfl
  case h4 => rfl
  case h5 => rfl
  case h6 => rfl
  case h7 => rfl
  case h8 => rfl
  case h9 => intro _; rfl
  case h10 => intro _; rfl
  case h11 => rfl
  intro L h₁ t₁ E' X R' C'
  refine cutQ fun P₀ hP₀ => ?_
  ktr_unf
  refine nm_loc X.ev (by rfl) ?_
  ktr_unf
  exact h _ _ X.keep

section
variable {w : World} {A : Around} {E : Value → Shared → Prop}
theorem ff_loop {Rr : Result → Shared → Prop} {d : Nat} {h₀ : Heap} (C : Cx w h₀) (R : Rm A.in1 (d + 1) h₀) {x u l it l2 Sd : Addr} {vs vs2 : List Value} {ws ex : List (List Nat)} {res : Value} (hn : h₀.get? it = none) (hnS : h₀.get? Sd = none) (hne : Sd ≠ it) (hwl : ws.length ≤ 1000)
    (I : IsI h₀ x 71 #[some (.ref u), some (.ref it)]) (hu : IsB h₀ u "list.__contains__" l2) (hl : h₀.PlainList l vs.toArray) (hv : SV vs ws) (hl2 : h₀.PlainList l2 vs2.toArray) (hv2 : SV vs2 ex) :
    ∀ (m i : Nat) (s : Shared) (acc : List Value) (aw : List (List Nat)), ws.length - i = m → i ≤ ws.length → Kp h₀ s.heap → LI s.heap it l i → s.heap.PlainList Sd acc.toArray → SV acc aw → acc.length ≤ i →
      (∀ h' t' (acc' : List Value), Kp h₀ h' → h'.PlainList Sd acc'.toArray → SV acc' (aw ++ (ws.drop i).filter (fun y => !decide (y ∈ ex))) → Rr (.ok (.ret res)) { s with heap := h', toks := t' }) →
      codeAny (model PW w) A (.builtin "list.extend.loop" ⟨[.ref Sd, .ref x, res], []⟩) Rr s := by
  intro m
  induction m using Nat.strongRecOn with
  | ind m ih =>
  intro i s acc aw hm hi k hit hS hacc hal hR
  refine codeAny_builtin F.entry_extend_loop ?_
  rw [Around.under_plainId F.plain_extend_loop _]
  show wpAny _ A.in1 (pyNext (.ref x) >>= _) _ _ s
  have kw : Kp h₀ (wo [it] s.heap) := kp_wo k fun z hz => by rw [List.mem_singleton.mp hz]; exact hn
  have hSw : (wo [it] s.heap).PlainList Sd acc.toArray := by
    obtain ⟨n, e⟩ := hS
    exact ⟨n, (wo_get (by simpa using hne)).trans e⟩
  refine wpAny_bind (nx_inst (f := 67) (C.up k) (I.kp k) (by rfl) (by rfl) ?_)
  refine c_ff_next (d := d) (h₀ := wo [it] s.heap) (C.up kw) (R.kp kw) wo_kp (wo_none (by simp)) hi (I.kp kw) (hu.kp kw) (pl_kp hl kw) hv (pl_kp hl2 kw) hv2 hit (fun h' t' j v l' hij hvj hwj hflt hit' k' => ?_) (fun h' t' e hflt k' he => ?_)
  · have k2 := kw.trans k'
    obtain ⟨n, eS⟩ := pl_kp hSw k'
    have hjl : j < ws.length := by
      rcases Nat.lt_or_ge j ws.length with q | q
      · exact q
      · rw [List.getElem?_eq_none q] at hwj; cases hwj
    show wpAny _ A.in1 (updateSeq Sd (·.push v) >>= _) _ _ _
    refine wpAny_bind ?_
    refine wpAny_updateSeq eS rfl (wpAny_pure ⟨plainId_quiet F.plain_extend_loop _, ?_⟩) (by rw [List.size_toArray, sizeLine_is]; (first | lia | omega)) (by rw [Array.size_push, List.size_toArray, sizeLine_is]; (first | lia | omega))
    have hs : Heap.SameBut Sd h' (h'.update Sd (Obj.mapSeq (·.push v))) := Heap.SameBut.update ..
    have eS2 : (h'.update Sd (Obj.mapSeq (·.push v))).PlainList Sd (acc ++ [v]).toArray :=
      ⟨n + 1, by rw [Heap.get?_update_self _ eS (by rw [Obj.mapSeq_push_plain]; rfl), Obj.mapSeq_push_plain]; simp⟩
    obtain ⟨l'', t'', e1, e2⟩ := hv.get hvj
    rw [hwj] at e1; cases e1; subst e2
    refine ih (ws.length - (j + 1)) (by (first | lia | omega)) (j + 1) _ (acc ++ [.str (S l') t'']) (aw ++ [l']) rfl hjl (kp_sb k2 hs hnS) (hs.extBut _ _ (Ne.symm hne) hit') eS2 hacc.snoc (by rw [List.length_append, List.length_singleton]; (first | lia | omega)) fun h3 t3 acc' k3 p3 sv3 => ?_
    refine hR h3 t3 acc' k3 p3 ?_
    rw [hflt]; simpa using sv3
  · refine ⟨?_, ?_⟩
    · obtain ⟨o, e1, e2⟩ := he; exact ⟨e, o, rfl, e1, e2⟩
    · refine wpAny_pure (hR h' t' acc (kw.trans k') (pl_kp hSw k') ?_)
      rw [hflt]; simpa using hacc
omit [Lo] in
theorem Looks.gone {α : Type} {M : Model} {A : Around} {s : Shared} {t : Sem α} {r : α} {Q : α → Shared → Prop} {E : Value → Shared → Prop} (x : Looks M s.heap t r) (q : Q r s) : wpAny M A t Q E s := x A Q E s (fun _ _ e => e) q
theorem ff_list {s : Shared} {Q : Value → Shared → Prop} {d : Nat} {h₀ : Heap} (C : Cx w h₀) (R : Rm A (d + 4) h₀) (k : Kp h₀ s.heap) {x u l it l2 : Addr} {vs vs2 : List Value} {ws ex : List (List Nat)} (hn : h₀.get? it = none) (hwl : ws.length ≤ 1000)
    (I : IsI h₀ x 71 #[some (.ref u), some (.ref it)]) (hu : IsB h₀ u "list.__contains__" l2) (hl : h₀.PlainList l vs.toArray) (hv : SV vs ws) (hl2 : h₀.PlainList l2 vs2.toArray) (hv2 : SV vs2 ex) (hit : LI s.heap it l 0)
    (h : ∀ h' t' a (acc : List Value), Kp h₀ h' → h₀.get? a = none → h'.PlainList a acc.toArray → SV acc (ws.filter (fun y => !decide (y ∈ ex))) → Q (.ref a) { s with heap := h', toks := t' }) :
    wpAny (model PW w) A (call (.type "list") [.ref x]) Q E s := by
  refine callType_codes (Q₁ := fun obj s₁ => obj = .ref s.heap.objs.size ∧ s₁ = { s with heap := s.heap.push { cls := .type "list", data := .seq #[] } }) F.called_list (F.typeCall_list_1 _) F.entry_list_init
    (code_list_new _ ⟨rfl, rfl⟩) fun obj s₁ h₁ => ?_
  obtain ⟨rfl, rfl⟩ := h₁
  generalize hSd : s.heap.objs.size = Sd
  have hnS : s.heap.get? Sd = none := ge_none (by (first | lia | omega))
  have hn0S : h₀.get? Sd = none := k.none hnS
  have hS : (s.heap.push { cls := .type "list", data := .seq #[] }).get? Sd = some { cls := .type "list", data := .seq #[] } := by rw [← hSd]; exact Heap.get?_push_size _ rfl
  refine ⟨⟨_, hS, rfl⟩, F.args_list_init_2 _ _, ?_⟩
  have k1 : Kp h₀ (s.heap.push { cls := .type "list", data := .seq #[] }) := k.trans (Kp.push _ _)
  have hit1 : LI (s.heap.push { cls := .type "list", data := .seq #[] }) it l 0 := Heap.get?_push_of_some _ hit
  have hne : Sd ≠ it := fun q => by subst q; have e : s.heap.get? Sd = some _ := hit; rw [hnS] at e; cases e
  have hSx : Sd ≠ x := fun q => by subst q; obtain ⟨dx, e, _⟩ := I.at_; rw [hn0S] at e; cases e
  generalize s.heap.push { cls := .type "list", data := .seq #[] } = H1 at hS k1 hit1
  show wpAny _ _ (do let old ← Builtin.List.listItems (.ref Sd); Builtin.List.listUpdate (.ref Sd) (fun _ => #[]); letGo old.toList.reverse; Builtin.List.listExtendWith (.ref Sd) (.ref x) .none) _ _ _
  refine wpAny_bind ?_
  unfold Builtin.List.listItems
  refine wpAny_bind (wpAny_seqItems hS rfl (wpAny_pure ?_))
  show wpAny _ _ (updateSeq Sd (fun _ => #[]) >>= fun _ => letGo (#[] : Array Value).toList.reverse >>= fun _ => Builtin.List.listExtendWith (.ref Sd) (.ref x) .none) _ _ _
  refine wpAny_bind (wpAny_updateSeq hS rfl ?_)
  have hS2 := Heap.get?_update_self (Obj.mapSeq (fun _ => (#[] : Array Value))) hS rfl
  have s2 : Heap.SameBut Sd H1 (H1.update Sd (Obj.mapSeq (fun _ => (#[] : Array Value)))) := Heap.SameBut.update ..
  have k2 := kp_sb k1 s2 hn0S
  have hit2 : LI _ it l 0 := s2.extBut _ _ (Ne.symm hne) hit1
  refine wpAny_bind (wpAny_letGo ?_)
  generalize H1.update Sd (Obj.mapSeq (fun _ => (#[] : Array Value))) = H2 at hS2 k2 hit2
  unfold Builtin.List.listExtendWith
  obtain ⟨ox, I2, _⟩ := (I.kp k2).inst
  refine wpAny_bind (Looks.gone I2.type ?_)
  have h1 : Builtin.List.listSameRef (.ref Sd) (.ref x) = false := by simp [Builtin.List.listSameRef, hSx]
  have h2 : (Value.ref 71 == Value.type "list") = false := by decide
  have h3 : (Value.ref 71 == Value.type "tuple") = false := by decide
  simp only [h1, h2, h3, Bool.or_false, Bool.false_eq_true, if_false]
  refine wpAny_bind (it_inst (f := 60) (C.up k2) (I.kp k2) (by rfl) (by rfl) (by rfl : findIn (KF w.params) (.ref 71) "__next__" = some (some (.ref 67))) ?_)
  refine c_ff_iter (d := d) (C.up k2) (((R.in1).in1.kp k2).mono (by (first | lia | omega))) fun H3 t3 k3 => ⟨rfl, k3, ?_⟩
  have k03 := k2.trans k3
  obtain ⟨ox3, I3, _⟩ := (I.kp k03).inst
  refine wpAny_bind (wpAny_holding ?_)
  unfold Builtin.List.listLengthHint
  refine wpAny_bind (wpAny_bind (Looks.gone I3.type (Looks.gone (looks_findIn (C.up k03).k (by rfl : findIn (KF w.params) (.ref 71) "__len__" = some none)) ?_)))
  show wpAny _ _ (specialOf (Value.ref x) (Str.ofString "__length_hint__") >>= _) _ _ _
  refine wpAny_bind (wpAny_bind (Looks.gone I3.type (Looks.gone (looks_findIn (C.up k03).k (by rfl : findIn (KF w.params) (.ref 71) "__length_hint__" = some none)) ?_)))
  refine wpAny_pure ?_
  show wpAny _ _ (rule "list.extend.makes-room" >>= fun _ => Builtin.List.listTouch (.ref Sd) >>= fun _ =>
    again (.builtin "list.extend.loop" ⟨[.ref Sd, .ref x, .none], []⟩)) _ _ _
  refine wpAny_bind (wpAny_rule ?_)
  refine wpAny_bind ?_
  show wpAny _ _ (updateSeq Sd (·.push .none) >>= fun _ => updateSeq Sd (·.pop)) _ _ _
  have hS3 := k3.off _ _ hS2 (cn _ _ (by decide))
  refine wpAny_bind (wpAny_updateSeq hS3 rfl ?_)
  have hS4 := Heap.get?_update_self (Obj.mapSeq (·.push Value.none)) hS3 rfl
  refine wpAny_updateSeq (hz := by seq_fits) hS4 rfl ?_
  have hS5 := Heap.get?_update_self (Obj.mapSeq (·.pop)) hS4 rfl
  have s4 : Heap.SameBut Sd H3 (H3.update Sd (Obj.mapSeq (·.push Value.none))) := Heap.SameBut.update ..
  have s5 : Heap.SameBut Sd (H3.update Sd (Obj.mapSeq (·.push Value.none))) ((H3.update Sd (Obj.mapSeq (·.push Value.none))).update Sd (Obj.mapSeq (·.pop))) := Heap.SameBut.update ..
  have k5 := kp_sb (kp_sb k03 s4 hn0S) s5 hn0S
  have hit5 : LI _ it l 0 := s5.extBut _ _ (Ne.symm hne) (s4.extBut _ _ (Ne.symm hne) (hit2.kp k3))
  refine wpAny_pure ⟨plainId_quiet F.plain_extend_loop _, ?_⟩
  refine ff_loop (A := A.in1) (d := d) C ((R.in1).in1.mono (by (first | lia | omega))) hn hn0S hne hwl I hu hl hv hl2 hv2 _ 0 _ [] [] rfl (Nat.zero_le _) k5 hit5 ⟨_, hS5⟩ SV.nil (Nat.le_refl _) fun h' t' acc' k6 p6 sv6 => ?_
  exact ⟨rfl, h h' t' Sd acc' k6 hn0S p6 (by simpa using sv6)⟩
end
omit [Lo] in
noncomputable def f82 (w : World) : Fn w 82 := ⟨_, _, _, _, rfl⟩
theorem c_filter {w : World} {A : Around} {E : Value → Shared → Prop} {s : Shared} {Q : Value → Shared → Prop} {d : Nat} (C : Cx w s.heap) (R : Rm A (d + 6) s.heap) {l l2 : Addr} {vs vs2 : List Value} {ws ex : List (List Nat)} (hwl : ws.length ≤ 1000)
    (hl : s.heap.PlainList l vs.toArray) (hv : SV vs ws) (hl2 : s.heap.PlainList l2 vs2.toArray) (hv2 : SV vs2 ex)
    (h : ∀ h' t' a (acc : List Value), Kp s.heap h' → s.heap.get? a = none → h'.PlainList a acc.toArray → SV acc (ws.filter (fun y => !decide (y ∈ ex))) → Q (.ref a) { s with heap := h', toks := t' }) :
    wpAny (model PW w) A (call (.ref 82) [.ref l, .ref l2]) Q E s := by
  refine' callK (f82 w) (d := d + 5) [("flist", .ref l), ("skip", .ref l2)] (upd (upd (fun _ => none) "flist" (.ref l)) "skip" (.ref l2)) (fun _ => none) C R ?h2 ?h3 ?h4 ?h5 ?h6 ?h7 ?h8 ?h9 ?h10 ?h11 ?_
  case h2 => rfl
  case h3 => rfl
  case h4 => rfl
  case h5 => rfl
  case h6 => rfl
  case h7 => rfl
  case h8 => rfl
  case h9 => intro _; rfl
  case h10 => intro _; rfl
  case h11 => rfl
  intro L h₁ t₁ E' X R' C'
  refine cutQ fun P₀ hP₀ => ?_
  ktr_unf
  refine nm_blt (v := .type "list") C' (by rfl) rfl ?_
  ktr_unf
  refine nm_glob (v := .ref 71) C' (by rfl) ?_
  refine callWith_K C'.k (by rfl) ?_
  ktr_unf
  refine Attribute_Name_ ?_
  refine nm_loc X.ev (by rfl) ?_
  obtain ⟨n2, e2⟩ := pl_kp hl2 X.keep
  refine get_contains e2 fun b h2 k2 n2 hb => ?_
  have X2 := X.kp k2
  ktr_unf
  refine nm_loc X2.ev (by rfl) ?_
  ktr_unf
  refine ⟨(X2.cx C).k, ?_⟩
  have hb2 : IsB h2 b "list.__contains__" l2 := ⟨_, .inr rfl, hb⟩
  have R2 := X2.rm R
  refine mk_obj (X2.cx C) (by rfl) (by rfl : findIn (KF w.params) (.ref 71) "__init__" = some (some (.ref 53))) (by rfl) fun x dx h3 k3 nx ndx ex1 ex2 hne => ?_
  refine c_ff_init (d := d + 3) (h₀ := h2) (X2.cx C) ((R2.tc 71 _ _)) k3 nx ⟨⟨dx, ex1, ex2, hne⟩⟩ (pl_kp (pl_kp hl X2.keep) k3) fun h4 t4 it k4 nit I4 i4 => ?_
  refine ⟨rfl, ?_⟩
  have X4 := X2.kp k4
  ktr_unf
  have nx4 : h2.get? it = none := k3.none nit
  have kw : Kp h2 (wo [it] h4) := kp_wo k4 fun z hz => by rw [List.mem_singleton.mp hz]; exact nx4
  have C2 := X2.cx C
  have hitx : it ≠ x := fun q => by subst q; rw [ex1] at nit; cases nit
  have I4' : IsI (wo [it] h4) x 71 #[some (.ref b), some (.ref it)] := by
    obtain ⟨dx', a1, a2, a3⟩ := I4.at_
    have hdi : dx' ≠ it := fun q => by subst q; rw [show h4.get? dx' = some _ from i4] at a2; exact absurd (congrArg (fun o => o.map (·.cls)) a2) (by simp)
    exact ⟨dx', (wo_get (by simpa using (Ne.symm hitx))).trans a1, (wo_get (by simpa using hdi)).trans a2, a3⟩
  refine ff_list (d := d) (h₀ := wo [it] h4) (C2.up kw) ((R2.kp kw).mono (by (first | lia | omega))) wo_kp (wo_none (by simp)) hwl I4' (hb2.kp kw) (pl_kp (pl_kp hl X2.keep) kw) hv (pl_kp (pl_kp hl2 X2.keep) kw) hv2 i4 fun h5 t5 a acc k5 na p5 sv5 => ?_
  have kk := X2.keep.trans (kw.trans k5)
  ktr_unf
  exact h h5 t5 a acc kk ((X2.keep.trans kw).none na) p5 sv5
end

section
open PySem PySem.W PySem.Calls PyProof.Rows PyProof.V
variable [Lo]
omit [Lo] in
theorem intEs_keys {w : World} {es : Array DictEntry} (h : (es.toList.all fun e => match e.key with | .int i _ => e.hash == hashInt i | _ => false) = true) : KeysOf (intKind PW w) es := by
  intro e he
  have := List.all_eq_true.mp h e (by simpa using he)
  split at this
  · rename_i i t hk
    exact ⟨i, by rw [hk]; simp [intKind, Value.isInt], by simpa [intKind] using this⟩
  · cases this
section
variable {w : World} {A : Around} {E : Value → Shared → Prop} {s : Shared}
theorem special_map (C : Cx w s.heap) : ∃ f, s.heap.MapOf (intKind PW w) 89 f ∧ f 97 = none := by
  have e : ∃ o es ep, (KF w.params).lookup 89 = some o ∧ o.ExactDict ∧ o.data = .dict es ep ∧ (es.toList.all fun e => match e.key with | .int i _ => e.hash == hashInt i | _ => false) = true ∧ findBy (intKind PW w).is es 97 = none :=
    ⟨_, _, _, rfl, ⟨rfl, rfl, rfl⟩, rfl, rfl, rfl⟩
  obtain ⟨o, es, ep, e1, e2, e3, e4, e5⟩ := e
  exact ⟨_, ⟨o, es, ep, C.k _ _ e1, e2, e3, intEs_keys e4, fun _ => rfl⟩, e5⟩
theorem tl_a {A : Around} {E : Value → Shared → Prop} {s : Shared} {Q : Builtin.Str.Mapped → Shared → Prop} (C : Cx w s.heap) (hh : A.handled = none)
    (h : ∀ h' t', Kp s.heap h' → Q .keep { s with heap := h', toks := t' }) : wpAny (model PW w) A (Builtin.Str.tableLookup (.ref 89) 97) Q E s := by
  obtain ⟨f, hm, hf⟩ := special_map C
  unfold Builtin.Str.tableLookup
  refine wpAny_bind (wpAny_attempt ?_)
  refine wpAny_bind (wpAny_mkInt ?_)
  refine wpAny_getItem_missing_of (knd := intKind PW w) (k := 97) (intKind_is _ _ _ _) (by rfl) hh hm hf fun h' e hn => ?_
  obtain ⟨ob, t, e1, e2, _⟩ := hn.there
  refine wpAny_bind (wpAny_isInstance (T := "KeyError") (b := true) ⟨ob, e1, e2⟩ (by rw [isSubtype_type]; kernel_rfl) ?_)
  exact wpAny_bind (wpAny_rule (wpAny_pure (h _ _ (Kp.of hn.keeps))))
theorem tr_a {t : Tok} {Q : Value → Shared → Prop} (C : Cx w s.heap) (hh : A.handled = none) (h : ∀ h' t' k, Kp s.heap h' → Q (.str (S [97]) t') { s with heap := h', toks := k }) :
    wpAny (model PW w) A (call (.builtin "str.translate") [.str (S [97]) t, .ref 89]) Q E s := by
  refine wpAny_call_entry F.slot_str_translate (typeIs_str _ _ _) F.entry_str_translate ?_ (F.args_str_translate_2 _ _)
  unfold Builtin.«str.translate»
  refine wpAny_bind (wpAny_of_eq (a := (Value.str (S [97]) t, S [97], Value.ref 89)) (by kernel_rfl) ?_)
  dsimp only
  first | refine pif_f (by decide) ?_ | refine wif_f (by decide) ?_ | rw [if_neg (by decide)]
  rw [show (S [97]).cps = #[97] from rfl, ← Array.forIn_toList, List.forIn_cons]
  refine wpAny_bind (wpAny_bind ?_)
  rw [if_neg (by decide), if_pos (by decide +kernel)]
  dsimp only [List.lookup]
  refine wpAny_bind ?_
  refine tl_a C (by exact hh) fun h' t' k => ?_
  dsimp only
  repeat (first | refine wpAny_pure ?_ | refine wpAny_bind ?_ | (rw [List.forIn_nil]) | dsimp only)
  refine wpAny_fresh ?_
  refine wpAny_pure (wpAny_pure ?_)
  exact ⟨_, rfl, h h' _ _ k⟩
end
omit [Lo] in
noncomputable def f99 (w : World) : Fn w 99 := ⟨_, _, _, _, rfl⟩
set_option maxHeartbeats 4000000 in
theorem c_escape {w : World} {A : Around} {E : Value → Shared → Prop} {s : Shared} {Q : Value → Shared → Prop} {d : Nat} (C : Cx w s.heap) (R : Rm A (d + 1) s.heap) {t : Tok}
    (h : ∀ h' t' k, Kp s.heap h' → Q (.str (S [97]) k) { s with heap := h', toks := t' }) : wpAny (model PW w) A (call (.ref 99) [.str (S [97]) t]) Q E s := by
  refine' callK (f99 w) (d := d) [("pattern", .str (S [97]) t)] (upd (fun _ => none) "pattern" (.str (S [97]) t)) (fun _ => none) C R ?h2 ?h3 ?h4 ?h5 ?h6 ?h7 ?h8 ?h9 ?h10 ?h11 ?_
  case h2 => rfl
  case h3 => rfl
  case h4 => rfl
  case h5 => rfl
  case h6 => rfl
  case h7 => rfl
  case h8 => rfl
  case h9 => intro _; rfl
  case h10 => intro _; rfl
  case h11 => rfl
  intro L h₁ t₁ E' X R' C'
  refine cutQ fun P₀ hP₀ => ?_
  ktr_unf
  refine isTrue_plain ?_
  ktr_unf
  refine nm_blt (v := .builtin "isinstance") C' (by rfl) rfl ?_
  ktr_unf
  refine nm_loc X.ev (by rfl) ?_
  ktr_unf
  refine nm_blt (v := .type "str") C' (by rfl) rfl ?_
  ktr_unf
  refine IsiPair.str_str ?_
  ktr_unf
  first | refine pif_t rfl ?_ | refine wif_t rfl ?_ | rw [if_pos rfl]
  ktr_unf
  refine nm_loc X.ev (by rfl) ?_
  with_reducible refine GM.of (.str (S [97]) t) (typeIs_str _ _ _) F.slot_str_translate F.type_str_translate GM.noRef ?_
  ktr_unf
  refine nm_glob (v := .ref 89) C' (by rfl) ?_
  ktr_unf
  refine tr_a C' R'.hd fun h2 t2 k2 kk => ?_
  ktr_unf
  exact h _ _ _ (X.keep.trans kk)
end

section
open PySem PySem.W PySem.Calls PyProof.Rows PyProof.V
variable [Lo]
omit [Lo] in
theorem rp_slot : Slot "re.Pattern" "sub" "re.Pattern.sub" :=
  .of (owner := "re.Pattern") (n := "sub") (by rw [typeLookup_type, builtinLookup_eq_fast]; kernel_rfl) (by decide +kernel) (by decide +kernel) (by decide +kernel)
    (by first | exact .inl (by decide +kernel) | exact .inr (by decide +kernel)) (by rw [isSubtype_type]; kernel_rfl)
omit [Lo] in
theorem rp_type : typeOf (.builtin "re.Pattern.sub") = pure (.type "method_descriptor") := by show builtinType _ = _; rw [builtinType_eq_fast]; kernel_rfl
omit [Lo] in
theorem rp_entry : entryFor table "re.Pattern.sub" = some Builtin.«re.Pattern.sub» := entryFor_of_tree (by kernel_rfl)
omit [Lo] in
theorem rp_loop_entry : entryFor table "re.Pattern.sub.loop" = some Builtin.«re.Pattern.sub.loop» := entryFor_of_tree (by kernel_rfl)
omit [Lo] in
theorem rp_args (a b c : Value) : argsOk "re.Pattern.sub" ⟨[a, b, c], []⟩ := by unfold argsOk; kernel_rfl
omit [Lo] in
theorem rp_plain : PlainAttrs "re.Pattern" := ⟨⟨"object.__getattribute__", by rw [typeLookup_type, builtinLookup_eq_fast]; kernel_rfl, by decide +kernel⟩, by rw [typeLookup_type, builtinLookup_eq_fast]; kernel_rfl⟩
omit [Lo] in
theorem fn_call : typeLookup (.type "function") "__call__" = pure (some (.builtin "function.__call__")) := by rw [typeLookup_type, builtinLookup_eq_fast]; kernel_rfl
omit [Lo] in
theorem wpAny_rules {M : Model} {A : Around} {E : Value → Shared → Prop} {s : Shared} {Q : PUnit → Shared → Prop} (c : Nat → Bool) (nm : Nat → String) (h : Q ⟨⟩ s) : ∀ l : List Nat,
    wpAny M A (forIn l PUnit.unit fun i (_ : PUnit) => if c i = true then (do rule (nm i); pure (ForInStep.yield PUnit.unit) : Sem (ForInStep PUnit)) else pure (ForInStep.yield PUnit.unit)) Q E s
  | [] => by rw [List.forIn_nil]; exact wpAny_pure h
  | i :: r => by
    rw [List.forIn_cons]
    refine wpAny_bind ?_
    cases hc : c i with
    | true =>
      simp only [if_true]
      exact wpAny_bind (wpAny_rule (wpAny_pure (wpAny_rules c nm h r)))
    | false =>
      simp only [Bool.false_eq_true, if_false]
      exact wpAny_pure (wpAny_rules c nm h r)
omit [Lo] in
def codeAmp : Array Nat := #[14, 14, 4, 1, 1, 9, 0, 64, 0, 1342177280, 0, 0, 0, 0, 0, 17, 0, 13, 11, 9, 0, 64, 0, 1342177280, 0, 0, 0, 0, 0, 17, 1, 1]
omit [Lo] in
theorem no_find {M : Model} {A : Around} {E : Value → Shared → Prop} {s : Shared} {Q : Option Sre.M → Shared → Prop} {c : Nat} (hc : c = 42 ∨ c = 91) (h : Q none s) :
    wpAny M A (Builtin.Re.reRunToEnd (Sre.forSearch codeAmp #[c] 1 0 1 false)) Q E s := by
  have key : ∀ m : Sre.M, (m.runFor 4).outcome = some .failed → wpAny M A (Builtin.Re.reRunToEnd m) Q E s := by
    intro m hm
    unfold Builtin.Re.reRunToEnd
    refine wpAny_bind (m := Builtin.Re.reDrive (18446744073709551615 + 1) m) ?_
    rw [Builtin.Re.reDrive]
    refine KFB.if_so (by show (m.runFor 4).outcome.isSome = true; rw [hm]; rfl) ?_
    refine wpAny_pure (wpAny_bind (wpAny_rules (fun i => (m.runFor 4).seen.has i) (fun i => Sre.names.getD i "") ?_ _))
    show wpAny M A (match (m.runFor 4).outcome with | some .matched => pure (some (m.runFor 4)) | some .failed => pure none | some (.stuck why) => unsupported s!"_sre:{why}" | none => unsupported "internal:sre:no-outcome") Q E s
    rw [hm]
    exact wpAny_pure h
  refine key _ ?_
  rcases hc with rfl | rfl <;> kernel_rfl
section
variable {w : World} {A : Around} {E : Value → Shared → Prop} {s : Shared}
theorem whole_t {c : Nat} {t : Tok} {Q : Builtin.Re.ReTarget → Shared → Prop} (C : Cx w s.heap)
    (h : Q { pattern := .ref 87, string := .str (S [c]) t, code := codeAmp, text := #[c], kind := 0, groups := 1, pos := 0, lim := 1 } s) :
    wpAny (model PW w) A (Builtin.Re.reWholeTarget (.ref 87) (.str (S [c]) t)) Q E s := by
  have e1 : ∃ o vs, (KF w.params).lookup 87 = some o ∧ o.data = .fields vs ∧ vs.getD 6 .none = .int 0 0 ∧ vs.getD 5 .none = .ref 86 ∧ vs.getD 2 .none = .int 1 0 := ⟨_, _, rfl, rfl, rfl, rfl, rfl⟩
  have e2 : ∃ o xs n, (KF w.params).lookup 86 = some o ∧ o.data = .seq xs n ∧ (xs.map Builtin.Re.reRawOf).map (·.toNat) = codeAmp := ⟨_, _, _, rfl, rfl, by decide +kernel⟩
  obtain ⟨o, vs, a1, a2, a3, a4, a5⟩ := e1
  obtain ⟨o', xs, n, b1, b2, b3⟩ := e2
  unfold Builtin.Re.reWholeTarget
  refine wpAny_bind (wpAny_fieldsOf (C.k _ _ a1) a2 ?_)
  refine wpAny_bind (wpAny_of_eq (a := ((#[c], 0) : Array Nat × Nat)) (by rfl) ?_)
  dsimp only
  rw [a3, a4, a5]
  refine KFB.if_not (by rfl) ?_
  refine KFB.if_not (by rfl) ?_
  refine wpAny_bind (wpAny_of_eq (a := ()) (by rfl) ?_)
  unfold Builtin.Re.reRawItems
  refine wpAny_bind (wpAny_bind (wpAny_seqItems (C.k _ _ b1) b2 (wpAny_pure ?_)))
  refine wpAny_pure ?_
  show Q { pattern := .ref 87, string := .str (S [c]) t, code := (xs.map Builtin.Re.reRawOf).map (·.toNat), text := #[c], kind := 0, groups := 1, pos := 0, lim := 1 } s
  rw [b3]; exact h
theorem sub_c {c : Nat} {t : Tok} {f : Addr} {of : Obj} {Q : Value → Shared → Prop} (C : Cx w s.heap) (hc : c = 42 ∨ c = 91) (hf : s.heap.get? f = some of) (hfc : of.cls = .type "function")
    (h : ∀ h' t' k, Kp s.heap h' → Q (.str (S [c]) t') { s with heap := h', toks := k }) : wpAny (model PW w) A (call (.builtin "re.Pattern.sub") [.ref 87, .ref f, .str (S [c]) t]) Q E s := by
  have e1 : ∃ o, (KF w.params).lookup 87 = some o ∧ o.cls = .type "re.Pattern" := ⟨_, rfl, rfl⟩
  obtain ⟨o, a1, a2⟩ := e1
  refine wpAny_call (codeAny_call_builtin rp_slot.plain rp_entry (rp_slot.check _ _ _ _ _ _ _ _ ⟨_, C.k _ _ a1, a2⟩ (rp_args _ _ _) ?_))
  unfold Builtin.«re.Pattern.sub» Builtin.Re.reSubstitute
  dsimp only
  refine wpAny_bind (wpAny_of_eq (a := [some (Value.ref f), some (Value.str (S [c]) t), none]) (by kernel_rfl) ?_)
  dsimp only
  refine wpAny_bind (wpAny_pure ?_)
  refine wpAny_bind (wpAny_specialOf (T := "function") (name := Str.ofString "__call__") ⟨_, hf, hfc⟩ fn_call ?_)
  refine KFB.if_so rfl ?_
  refine wpAny_bind (wpAny_pure ?_)
  refine KFB.if_so rfl ?_
  refine wpAny_bind (wpAny_pure ?_)
  refine wpAny_bind (wpAny_holding (whole_t C ?_))
  refine KFB.if_so rfl ?_
  refine wpAny_bind (m := Builtin.Re.reNotHeld "re.Pattern.sub" (.str (S [c]) t)) ?_
  unfold Builtin.Re.reNotHeld
  refine wpAny_bind (wpAny_isInstance (T := "str") (b := false) (typeIs_str _ _ _) (by rw [isSubtype_type]; kernel_rfl) ?_)
  refine KFB.if_not rfl ?_
  refine wpAny_pure ?_
  refine wpAny_bind (new_list (fun l h1 el k1 n1 p1 => ?_) (by rw [sizeLine_is]; exact Nat.le_of_ble_eq_true rfl))
  have C1 := C.up k1
  refine wpAny_pure ⟨plainId_quiet (by decide +kernel) _, codeAny_builtin rp_loop_entry ?_⟩
  rw [Around.under_plainId (by decide +kernel) _]
  unfold Builtin.«re.Pattern.sub.loop»
  dsimp only
  refine wpAny_bind (whole_t C1 ?_)
  refine KFB.if_not rfl ?_
  dsimp only
  refine wpAny_bind ?_
  refine KFB.if_not rfl ?_
  refine no_find hc ?_
  dsimp only
  first | refine pif_t (by decide) ?_ | refine wif_t (by decide) ?_ | rw [if_pos (by decide)]
  obtain ⟨n, hl⟩ := p1
  have ex : (⟨(#[c] : Array Nat).extract 0 1⟩ : Str) = S [c] := by simp [S]
  refine wpAny_bind ?_
  show wpAny _ _ (mkStr ⟨(#[c] : Array Nat).extract 0 1⟩) _ _ _
  rw [ex]
  refine wpAny_mkStr ?_ (by rw [S_len, sizeLine_is]; exact Nat.le_of_ble_eq_true rfl)
  refine wpAny_bind (wpAny_updateSeq hl rfl ?_ (by rw [sizeLine_is]; exact Nat.le_of_ble_eq_true rfl) (by rw [sizeLine_is]; exact Nat.le_of_ble_eq_true rfl))
  have hs : Heap.SameBut l h1 (h1.update l (Obj.mapSeq fun x => x.push (.str (S [c]) s.toks))) := Heap.SameBut.update ..
  have k2 := kp_sb k1 hs n1
  have p2 : (h1.update l (Obj.mapSeq fun x => x.push (.str (S [c]) s.toks))).PlainList l #[.str (S [c]) s.toks] :=
    ⟨n + 1, by rw [Heap.get?_update_self _ hl (by rw [Obj.mapSeq_push_plain]; rfl), Obj.mapSeq_push_plain]; rfl⟩
  obtain ⟨n2, e2⟩ := id p2
  refine wpAny_bind ?_
  have ey : (⟨(#[c] : Array Nat).extract 0 0⟩ : Str) = S [] := by simp [S]
  show wpAny _ _ (mkStr ⟨(#[c] : Array Nat).extract 0 0⟩) _ _ _
  rw [ey]
  refine wpAny_mkStr ?_ (by rw [S_len, sizeLine_is]; exact Nat.le_of_ble_eq_true rfl)
  refine wpAny_bind (wpAny_seqItems e2 rfl ?_)
  refine KFB.if_not rfl ?_
  refine wpAny_bind ?_
  show wpAny _ _ (call (.builtin "str.join") [.str (S []) _, .ref l]) _ _ _
  refine SC.join (l := [(S [c], s.toks)]) p2.isList (texts := [[c]].map S) rfl (join_ok [[c]] (by simp)) fun t3 k3 => ?_
  rw [join_flat]
  refine KFB.if_not rfl ?_
  refine wpAny_pure ?_
  exact h _ t3 k3 k2
end
end

section
open PySem PySem.W PySem.Calls PyProof.Rows PyProof.V
variable [Lo]
omit [Lo] in
/-- the table of the codes made inside _translate -/
def Tab (h : Heap) : Prop := ∃ ps : Array Value, h.get? 101 = some (tabObj ps) ∧ TriplesOk ps.toList
theorem Tab.kp {h h' : Heap} (t : Tab h) (k : Kp h h') : Tab h' := let ⟨ps, e, r⟩ := t; ⟨ps, k.off _ _ e (fun q => nomatch q), r⟩
omit [Lo] in
theorem Tab.ko {h h' : Heap} (t : Tab h) (k : Ko h h') : Tab h' := let ⟨ps, e, r⟩ := t; ⟨ps, k _ _ e (fun q => nomatch q) (fun q => nomatch q), r⟩
omit [Lo] in
theorem Tab.live {h : Heap} (t : Tab h) : ∃ o, h.get? 101 = some o ∧ o.cls ≠ .type "frame" ∧ o.cls ≠ .type "cell" := let ⟨ps, e, r⟩ := t; ⟨_, e, (fun q => nomatch q), fun q => nomatch q⟩
section
variable {w : World} {A : Around} {E : Value → Shared → Prop} {s : Shared}
theorem eval_lam {env : Env} {params : Arguments} {body : Expr} {scope : Scope} {pos : Pos} {Q : Value → Shared → Prop} (C : Cx w s.heap) (T : Tab s.heap) (hdef : defaultsOf params env = ([], [])) (hcl : closureFor scope env = pure []) (hge : env.globals = mainGlobals) (hcode : env.code = .ref 105)
    (h : ∀ f h' t', (∀ b o, b ≠ 101 → s.heap.get? b = some o → h'.get? b = some o) → Tab h' → (∃ o, h'.get? f = some o ∧ o.cls = .type "function") → Q (.ref f) { s with heap := h', toks := t' }) :
    wpAny (model PW w) A (eval (.Lambda params body scope pos) env) Q E s := by
  obtain ⟨ps, hP, hT⟩ := T
  obtain ⟨mg, bm, ob, G, a2, a3, a3', a4, a5, a6, a7⟩ := C.bm
  have CH : CodeHd s.heap 105 101 := codeHd_of_K C.k (by rfl)
  have hne : bm ≠ 101 := fun q => by subst q; rw [hP] at a4; cases a4; cases a5
  refine kla_eval hdef ?_
  cases hf : codeAmong pos ps.toList with
  | none =>
    have hgP : mainGlobals ≠ 101 := by decide
    refine kla_makeFunction (mg := mg) hcl hge G hcode CH hP hT hf hgP ⟨bm, ob, a2, a3, a3', hne, a4, a5, a6, a7⟩ fun c' ctv h' tk hx hge' hlt hrec htb => ?_
    refine h _ _ _ (fun b o hb e => Heap.get?_push_of_some _ (hx b o hb e)) ⟨_, Heap.get?_push_of_some _ htb, ?_⟩ ⟨_, Heap.get?_push_size _ rfl, rfl⟩
    have := TriplesOk_snoc pos.line pos.col (.ref c') ps.toList hT
    simpa using this
  | some cv =>
    refine kla_makeFunctionHit (mg := mg) hcl hge G hcode CH hP hT hf ⟨bm, ob, a2, a3, a3', hne, a4, a5, a6, a7⟩ fun ctv h' tk hk hsz => ?_
    exact h _ _ _ (fun b o hb e => Heap.get?_push_of_some _ (hk b o e)) ⟨ps, Heap.get?_push_of_some _ (hk _ _ hP), hT⟩ ⟨_, Heap.get?_push_size _ rfl, rfl⟩
omit [Lo] in
theorem no_exc {α : Type} {M : Model} {A : Around} {s : Shared} {t : Sem α} {Q : α → Shared → Prop} {E : Value → Shared → Prop} (h : wpAny M A t Q (fun _ _ => False) s) : wpAny M A t Q E s := wpAny_mono h (fun _ _ z => z) fun _ _ z => z.elim
end
omit [Lo] in
def tokT : Option Nat → List Nat
  | none => [42]
  | some c => sgn c
omit [Lo] in
def NoSS (qs : List (Option Nat)) : Prop := ∀ i, qs[i]? = some none → qs[i + 1]? ≠ some none
omit [Lo] in
noncomputable def f106 (w : World) : Fn w 106 := ⟨_, _, _, _, rfl⟩
/-- between two signs -/
structure TI (w : World) (h₀ : Heap) (L st r b : Addr) (pat : List Nat) (m : Str → Option Value) (h : Heap) (i : Nat) (done : List (Option Nat)) : Prop where
  bd : Bd h₀ (envF (f106 w) L) m (fun _ => none) h
  tab : Tab h
  hp : ∃ t, m "pat" = some (.str (S pat) t)
  hs : m "STAR" = some (.ref st)
  hr : m "res" = some (.ref r)
  ha : m "add" = some (.ref b)
  hi : ∃ t, m "i" = some (.int (i : Int) t)
  hn : ∃ t, m "n" = some (.int (pat.length : Int) t)
  isb : IsB h b "list.append" r
  lst : ∃ vs : List Value, h.PlainList r vs.toArray ∧ PV st vs (done.map (Option.map tx))
theorem TI.kp {w : World} {h₀ : Heap} {L st r b : Addr} {pat : List Nat} {m : Str → Option Value} {h h' : Heap} {i : Nat} {done : List (Option Nat)} (x : TI w h₀ L st r b pat m h i done) (k : Kp h h') : TI w h₀ L st r b pat m h' i done :=
  ⟨x.bd.kp k, x.tab.kp k, x.hp, x.hs, x.hr, x.ha, x.hi, x.hn, x.isb.kp k, let ⟨vs, p, q⟩ := x.lst; ⟨vs, pl_kp p k, q⟩⟩
theorem TI.store {w : World} {h₀ : Heap} {L st r b : Addr} {pat : List Nat} {m : Str → Option Value} {h h' : Heap} {i : Nat} {done : List (Option Nat)} {y : Str} {v : Value} (x : TI w h₀ L st r b pat m h i done)
    (bd : Bd h₀ (envF (f106 w) L) (upd m y v) (fun _ => none) h') (k : Ko h h') (hy : ([("pat" : Str), "STAR", "res", "add", "i", "n"].all fun z => !(z == y)) = true := by decide) : TI w h₀ L st r b pat (upd m y v) h' i done := by
  have e : ∀ z ∈ [("pat" : Str), "STAR", "res", "add", "i", "n"], upd m y v z = m z := fun z hz => by
    have := List.all_eq_true.mp hy z hz
    have hne : z ≠ y := by simpa using this
    show (if z = y then some v else m z) = m z
    rw [if_neg hne]
  have e1 := e "pat" (by simp)
  have e2 := e "STAR" (by simp)
  have e3 := e "res" (by simp)
  have e4 := e "add" (by simp)
  have e5 := e "i" (by simp)
  have e6 := e "n" (by simp)
  exact ⟨bd, x.tab.ko k, e1 ▸ x.hp, e2 ▸ x.hs, e3 ▸ x.hr, e4 ▸ x.ha, e5 ▸ x.hi, e6 ▸ x.hn, x.isb.ko k, let ⟨vs, p, q⟩ := x.lst; ⟨vs, pl_ko p k, q⟩⟩
theorem TI.seti {w : World} {h₀ : Heap} {L st r b : Addr} {pat : List Nat} {m : Str → Option Value} {h h' : Heap} {i i' : Nat} {done : List (Option Nat)} {z : Int} {t : Tok} (x : TI w h₀ L st r b pat m h i done)
    (bd : Bd h₀ (envF (f106 w) L) (upd m "i" (.int z t)) (fun _ => none) h') (k : Ko h h') (hz : z = (i' : Int)) : TI w h₀ L st r b pat (upd m "i" (.int z t)) h' i' done :=
  ⟨bd, x.tab.ko k, x.hp, x.hs, x.hr, x.ha, ⟨t, by rw [hz]; rfl⟩, x.hn, x.isb.ko k, let ⟨vs, p, q⟩ := x.lst; ⟨vs, pl_ko p k, q⟩⟩
theorem TI.ext {w : World} {h₀ : Heap} {L st r b : Addr} {pat : List Nat} {m : Str → Option Value} {h h' : Heap} {i : Nat} {done : List (Option Nat)} (x : TI w h₀ L st r b pat m h i done) (hk : ∀ b o, b ≠ 101 → h.get? b = some o → h'.get? b = some o) (tab : Tab h') (n : h₀.get? 101 = none) : TI w h₀ L st r b pat m h' i done := by
  obtain ⟨vs, p, pv⟩ := x.lst
  obtain ⟨c, hc, eb⟩ := x.isb
  obtain ⟨ps, e1, _⟩ := x.tab
  have hbr : b ≠ 101 := fun q => by rw [q, e1] at eb; have := congrArg (fun o => o.map (·.cls)) eb; rcases hc with rfl | rfl <;> simp at this
  have hr : r ≠ 101 := fun q => by obtain ⟨n, e'⟩ := p; rw [q, e1] at e'; have := congrArg (fun o => o.map (·.cls)) e'; simp at this
  exact ⟨x.bd.ext hk n x.tab.live, tab, x.hp, x.hs, x.hr, x.ha, x.hi, x.hn, ⟨c, hc, hk _ _ hbr eb⟩, vs, let ⟨n, e⟩ := p; ⟨n, hk _ _ hr e⟩, pv⟩
/-- what is added -/
theorem TI.add {w : World} {A : Around} {E : Value → Shared → Prop} {s : Shared} {h₀ : Heap} {L st r b : Addr} {pat : List Nat} {m : Str → Option Value} {i : Nat} {done : List (Option Nat)} {v : Value} {q : Option Nat} {Q : Value → Shared → Prop} (x : TI w h₀ L st r b pat m s.heap i done) (hn : h₀.get? r = none) (hd : done.length ≤ 1000)
    (hv : match q.map tx with | none => v = .ref st | some l => ∃ t, v = .str (S l) t) (h : ∀ h', TI w h₀ L st r b pat m h' i (done ++ [q]) → Q .none { s with heap := h' }) : wpAny (model PW w) A (call (.ref b) [v]) Q E s := by
  obtain ⟨vs, p, pv⟩ := x.lst
  have hl : vs.length = done.length := by rw [Paired.len' pv, List.length_map]
  refine call_append x.isb p (by (first | lia | omega)) fun h' p' s' => ?_
  have hlive : ∃ o, s.heap.get? r = some o ∧ o.cls ≠ .type "frame" ∧ o.cls ≠ .type "cell" := by obtain ⟨n, e⟩ := p; exact ⟨_, e, cn _ _ (by decide), cn _ _ (by decide)⟩
  obtain ⟨c, hc, eb⟩ := x.isb
  have hbr : b ≠ r := fun q => by subst q; obtain ⟨n, e⟩ := p; rw [e] at eb; have := congrArg (fun o => o.map (·.cls)) eb; rcases hc with rfl | rfl <;> simp at this
  have h1r : (101 : Addr) ≠ r := fun q => by
    obtain ⟨ps, e, _⟩ := x.tab; obtain ⟨n, e'⟩ := p; rw [q, e'] at e; have := congrArg (fun o => o.map (·.cls)) e; simp at this
  refine h h' ⟨x.bd.but s' hn hlive, let ⟨ps, e, t⟩ := x.tab; ⟨ps, s'.extBut _ _ h1r e, t⟩, x.hp, x.hs, x.hr, x.ha, x.hi, x.hn, ⟨c, hc, s'.extBut _ _ hbr eb⟩, _, p', ?_⟩
  rw [List.map_append]
  exact PV.app pv (.cons hv .nil)
end

section
open PySem PySem.W PySem.Calls PyProof.Rows PyProof.V
variable [Lo]
omit [Lo] in
theorem unp2 {w : World} {A : Around} {E : Value → Shared → Prop} {s : Shared} {v1 v2 : Value} {a : Addr} {K : List Value → Shared → Prop} (hh : A.handled = none) (ht : s.heap.IsTuple a #[v1, v2]) (h : ∀ h', Heap.ExtBut s.heap.objs.size s.heap h' → K [v1, v2] { s with heap := h' }) :
    wpAny (model PW w) A (unpackItems (.ref a) 2 none) K E s := wpAny_unpackItems_tuple (items := #[v1, v2]) hh ht h
omit [Lo] in
theorem bind_nm {w : World} {A : Around} {E : Value → Shared → Prop} {s : Shared} {env : Env} {x : Str} {v : Value} {K : Unit → Shared → Prop} (h : wpAny (model PW w) A (storeName env x v) K E s) : wpAny (model PW w) A (bindName env x v) K E s := by
  unfold bindName
  exact wpAny_bind (wpAny_holding (wpAny_point (wpAny_bind (wpAny_mono h (fun _ _ z => wpAny_point z) fun _ _ z => z))))
theorem pair_to {w : World} {A : Around} {E : Value → Shared → Prop} {s : Shared} {env : Env} {x y : Str} {v1 v2 : Value} {K : Unit → Shared → Prop} (hh : A.handled = none)
    (h : ∀ h', Kp s.heap h' → wpAny (model PW w) A (storeName env y v2) (fun _ s' => wpAny (model PW w) A (storeName env x v1) K E s') E { s with heap := h' }) :
    wpAny (model PW w) A (newTuple [v1, v2]) (fun v s₁ => wpAny (model PW w) A (unpackItems v ([x, y] : List Str).length none) (fun items s₂ =>
      wpAny (model PW w) A (assignInOrder (([x, y] : List Str).reverse.map fun n => bindName env n) items.reverse) K E s₂) E s₁) E s := by
  refine wpAny_newTuple ?_ (by rw [sizeLine_is]; exact Nat.le_of_ble_eq_true rfl)
  refine unp2 hh ⟨_, Heap.get?_push_size _ rfl, rfl, 0, rfl⟩ fun h' he => ?_
  have hk : Kp s.heap h' := (Kp.push s.heap { cls := .type "tuple", data := .seq [v1, v2].toArray }).trans (Kp.of fun b o e => he b o (nn (size_none _) e) e)
  refine assignInOrder_cons (bind_nm (wpAny_mono (h h' hk) (fun _ s' z => ?_) fun _ _ z => z))
  exact assignInOrder_cons (bind_nm (wpAny_mono z (fun _ s'' z' => assignInOrder_nil z') fun _ _ z => z))
omit [Lo] in
theorem truthy_L {w : World} {A : Around} {E : Value → Shared → Prop} {s : Shared} {l : Addr} {vs : List Value} {K : Bool → Shared → Prop} (hl : s.heap.PlainList l vs.toArray) (hz : vs.length ≤ 100000) (h : K (decide (vs ≠ [])) { s with toks := s.toks + 1 + 1 }) : wpAny (model PW w) A (truthy (.ref l)) K E s := by
  refine wpAny_truthy_list hl.isList (by rw [List.size_toArray]; (first | lia | omega)) ?_
  have : (!vs.toArray.isEmpty) = decide (vs ≠ []) := by cases vs <;> simp
  rw [this]; exact h
omit [Lo] in
theorem sub_last {w : World} {A : Around} {E : Value → Shared → Prop} {s : Shared} {value slice : Expr} {a : Addr} {vs : List Value} {x : Value} {u : Tok} {K : Value → Shared → Prop} (hl : s.heap.PlainList a (vs ++ [x]).toArray) (hz : vs.length ≤ 100000) (h : K x s)
    (hs : subscripted slice false (.ref a) (.int (-1) u) = operate [.ref a, .int (-1) u] (getItem (.ref a) (.int (-1) u)) := by rfl) : wpAny (model PW w) A (subscriptTail value slice (.ref a) (.int (-1) u)) K E s :=
  tail_any hl.isList.typeIs F.slot_list_getitem.lookup (wpAny_getItem_list_neg (k := -1) hl.isList (by decide) (by rw [List.size_toArray, List.length_append, List.length_singleton]; (first | lia | omega)) (by decide) (by
    rw [List.size_toArray, List.length_append, List.length_singleton, show ((-1 : Int) + ((vs.length + 1 : Nat) : Int)).toNat = vs.length by (first | lia | omega)]; simp) h) hs
theorem in_tup2 {w : World} {A : Around} {E : Value → Shared → Prop} {s : Shared} {l : List Nat} {a b : Str} {t ta tb : Tok} {K : Value → Shared → Prop}
    (h : ∀ h', Kp s.heap h' → K (.bool (a == S l || b == S l)) { s with heap := h' }) :
    wpAny (model PW w) A (newTuple [.str a ta, .str b tb]) (fun v s₂ => wpAny (model PW w) A (compareOp CmpOp.In (.str (S l) t) v) K E s₂) E s := by
  refine wpAny_newTuple ?_ (by rw [sizeLine_is]; exact Nat.le_of_ble_eq_true rfl)
  refine SeqAt.in_tupleAt (items := #[.str a ta, .str b tb]) (fun v => match v with | .str z _ => z == S l | _ => false) ⟨_, Heap.get?_push_size _ rfl, rfl, 0, rfl⟩ (fun y hy => ?_) ?_
  · have : y = .str a ta ∨ y = .str b tb := by simpa using hy
    rcases this with rfl | rfl <;> exact SeqAt.EqAt.str_str _ _ _ _
  · have : (#[Value.str a ta, .str b tb].any fun v => match v with | .str z _ => z == S l | _ => false) = (a == S l || b == S l) := by
      rw [← Array.any_toList]; simp
    rw [this]; exact h _ (Kp.push _ _)
omit [Lo] in
theorem join_br {w : World} {A : Around} {E : Value → Shared → Prop} {s : Shared} {env : Env} {p1 p2 p3 p4 p5 : Pos} {k1 k2 : Nat} {x : Str} {l : List Nat} {t : Tok} {K : Value → Shared → Prop} (hl : l.length ≤ 10)
    (hx : ∀ (tk : Nat) (P : Value → Shared → Prop), P (.str (S l) t) { s with toks := tk } → wpAny (model PW w) A (eval (.Name x p3) env) P E { s with toks := tk })
    (h : ∀ t' k, K (.str (S (91 :: l ++ [93])) t') { s with toks := k }) :
    wpAny (model PW w) A (eval (.JoinedStr [.Constant (.str "[") k1 p1, .FormattedValue (.Name x p3) (-1) none p2, .Constant (.str "]") k2 p4] p5) env) K E s := by
  refine JoinedStr_many ?_
  refine joinParts_cons ?_
  refine Constant_str ?_
  refine ⟨by rw [sizeLine_is]; exact Nat.le_of_ble_eq_true (by decide +kernel), ?_⟩
  refine joinParts_cons ?_
  refine FormattedValue_plain ?_
  refine hx _ _ ?_
  refine formatField_str (fun t' tk => ?_) (by rw [S_len, sizeLine_is]; (first | lia | omega))
  have e1 : Str.empty ++ Str.ofString "[" ++ S l = S (91 :: l) := by
    rw [o_br, show (Str.empty : Str) = S [] from rfl, S_app, S_app]; rfl
  refine ⟨by rw [e1, S_len, sizeLine_is]; simp only [List.length_cons]; (first | lia | omega), ?_⟩
  rw [e1]
  refine joinParts_cons ?_
  refine Constant_str ?_
  have e2 : S (91 :: l) ++ Str.ofString "]" = S (91 :: l ++ [93]) := by rw [o_rb, S_app]
  refine ⟨by rw [e2, S_len, sizeLine_is]; simp only [List.length_cons, List.length_append, List.length_nil]; (first | lia | omega), ?_⟩
  rw [e2]
  refine joinParts_nil (h _ _) (by rw [S_len, sizeLine_is]; simp only [List.length_cons, List.length_append, List.length_nil]; (first | lia | omega))
/-- between the turns of the translation -/
inductive TrW (w : World) (h₀ : Heap) (L st r b : Addr) (s : Shared) (qs : List (Option Nat)) (pat : List Nat) (n : Nat) (s' : Shared) : Prop
  | mk (j : Nat) (m' : Str → Option Value) (h' : Heap) (t' : Nat) (e : s' = { s with heap := h', toks := t' }) (le : j ≤ qs.length) (hn : n = qs.length - j) (T : TI w h₀ L st r b pat m' h' ((qs.take j).flatMap tokT).length (qs.take j)) : TrW w h₀ L st r b s qs pat n s'
/-- between the turns of the search for the bracket -/
inductive TrZ (w : World) (h₀ : Heap) (L st r b : Addr) (s : Shared) (pat : List Nat) (k : Nat) (done : List (Option Nat)) (n : Nat) (s' : Shared) : Prop
  | mk (z : Nat) (m2 : Str → Option Value) (h2 : Heap) (t2 : Nat) (hz : z = 1 ∨ z = 2) (hn : n = 2 - z) (e : s' = { s with heap := h2, toks := t2 }) (T : TI w h₀ L st r b pat m2 h2 (k + 1) done) (tj : Tok) (hj : m2 "j" = some (.int ((k + z : Nat) : Int) tj)) : TrZ w h₀ L st r b s pat k done n s'
set_option maxHeartbeats 4000000 in
theorem c_translate {w : World} {A : Around} {E : Value → Shared → Prop} {s : Shared} {Q : Value → Shared → Prop} {d : Nat} {h₀ : Heap} (C : Cx w h₀) (R : Rm A (d + 3) h₀) (k : Kp h₀ s.heap) (n101 : h₀.get? 101 = none) (T : Tab s.heap)
    {st : Addr} {t u : Tok} {qs : List (Option Nat)} (hsg : ∀ c, some c ∈ qs → c = 97 ∨ c = 42 ∨ c = 91) (hss : NoSS qs) (hlen : qs.length ≤ 100)
    (h : ∀ a (vs : List Value) h' t', Kp h₀ h' → h₀.get? a = none → Tab h' → h'.PlainList a vs.toArray → PV st vs (qs.map (Option.map tx)) → Q (.ref a) { s with heap := h', toks := t' }) :
    wpAny (model PW w) A (call (.ref 106) [.str (S (qs.flatMap tokT)) t, .ref st, .str (S [46]) u]) Q E s := by
  refine' callK (f106 w) (d := d + 2) [("pat", .str (S (qs.flatMap tokT)) t), ("STAR", .ref st), ("QUESTION_MARK", .str (S [46]) u)] (upd (upd (upd (fun _ => none) "pat" (.str (S (qs.flatMap tokT)) t)) "STAR" (.ref st)) "QUESTION_MARK" (.str (S [46]) u)) (fun _ => none) (C.up k) (R.kp k) ?h2 ?h3 ?h4 ?h5 ?h6 ?h7 ?h8 ?h9 ?h10 ?h11 ?_
  case h2 => rfl
  case h3 => rfl
  case h4 => rfl
  case h5 => rfl
  case h6 => rfl
  case h7 => rfl
  case h8 => rfl
  case h9 => intro _; rfl
  case h10 => intro _; rfl
  case h11 => rfl
  intro L h₁ t₁ E' X R' C'
  refine no_exc ?_
  refine cutQ fun P₀ hP₀ => ?_
  have X0 := X.base k
  have hpl : (qs.flatMap tokT).length ≤ 300 := by
    have : ∀ l : List (Option Nat), (l.flatMap tokT).length ≤ 3 * l.length := by
      intro l
      induction l with
      | nil => simp
      | cons q r ih =>
        simp only [List.flatMap_cons, List.length_append, List.length_cons]
        have : (tokT q).length ≤ 3 := by cases q with | none => simp [tokT] | some c => simp only [tokT, sgn]; split <;> simp
        (first | lia | omega)
    have := this qs; (first | lia | omega)
  ktr_unf
  refine new_list (fun r h2 _ k2 nr p2 => ?_) (by rw [sizeLine_is]; exact Nat.le_of_ble_eq_true rfl)
  refine st_loc (X0.kp k2) fun h3 X3 k3 => ?_
  have p3 := pl_ko p2 k3
  ktr_unf
  refine Attribute_Name_ ?_
  refine nm_loc X3.ev (by rfl) ?_
  obtain ⟨nl, e3⟩ := id p3
  refine get_append e3 fun b h4 k4 nb eb => ?_
  refine st_loc (X3.kp k4) fun h5 X5 k5 => ?_
  have ib5 : IsB h5 b "list.append" r := (IsB.ko (h := h4) ⟨_, .inl rfl, eb⟩ k5)
  have p5 := pl_ko (pl_kp p3 k4) k5
  ktr_unf
  refine Assign_Tuple_swapped (names := ["i", "n"]) ?_ (by rfl) (by rfl)
  ktr_unf
  refine nm_blt (v := .builtin "len") (X5.cx C) (by rfl) rfl ?_
  ktr_unf
  refine nm_loc X5.ev (by rfl) ?_
  ktr_unf
  refine len_S (l := qs.flatMap tokT) (by (first | lia | omega)) ?_
  ktr_unf
  refine pair_to (x := "i") (y := "n") R'.hd fun h6 k6 => ?_
  have X6 := X5.kp k6
  refine st_loc X6 fun h7 X7 k7 => ?_
  refine st_loc X7 fun h8 X8 k8 => ?_
  ktr_unf
  have nr0 : h₀.get? r = none := X0.keep.none nr
  have ti0 : TI w h₀ L st r b (qs.flatMap tokT) _ h8 0 [] :=
    ⟨X8, (((T.kp (X.keep.trans k2)).ko k3).kp k4 |>.ko k5 |>.kp k6 |>.ko k7 |>.ko k8), ⟨t, rfl⟩, rfl, rfl, rfl, ⟨_, rfl⟩, ⟨_, rfl⟩, ((ib5.kp k6).ko k7).ko k8, [], pl_ko (pl_ko (pl_kp p5 k6) k7) k8, .nil⟩
  refine while_rule PassesOwn.never (TrW w h₀ L st r b s qs (qs.flatMap tokT)) qs.length ⟨0, _, h8, _, rfl, Nat.zero_le _, rfl, ti0⟩ ?_
  rintro n s' ⟨j, m', h', t', rfl, hj, rfl, ti⟩
  refine cutQ fun P₀ hP₀ => ?_
  have Cj := ti.bd.cx C
  have Rj := ti.bd.rm R
  obtain ⟨ti1, hmi⟩ := ti.hi
  obtain ⟨tn1, hmn⟩ := ti.hn
  ktr_unf
  refine nm_loc ti.bd.ev hmi ?_
  refine nm_loc ti.bd.ev hmn ?_
  ktr_unf
  have hsplit : ∀ q, qs[j]? = some q → qs.flatMap tokT = (qs.take j).flatMap tokT ++ (tokT q ++ (qs.drop (j + 1)).flatMap tokT) := by
    intro q hq
    have hjl : j < qs.length := by
      rcases Nat.lt_or_ge j qs.length with z | z
      · exact z
      · rw [List.getElem?_eq_none z] at hq; cases hq
    conv => lhs; rw [← List.take_append_drop j qs]
    rw [List.flatMap_append, List.drop_eq_getElem_cons hjl, List.flatMap_cons]
    rw [List.getElem?_eq_getElem hjl] at hq
    rw [Option.some.inj hq]
  cases hq : qs[j]? with
  | none =>
    have hjl : j = qs.length := by
      have := List.getElem?_eq_none_iff.mp hq; (first | lia | omega)
    first | refine pif_f (by rw [hjl, List.take_length]; simp) ?_ | refine wif_f (by rw [hjl, List.take_length]; simp) ?_ | rw [if_neg (by rw [hjl, List.take_length]; simp)]
    ktr_unf
    refine wpAny_Assert_holds ?_
    ktr_unf
    refine nm_loc ti.bd.ev hmi ?_
    refine nm_loc ti.bd.ev hmn ?_
    ktr_unf
    refine ⟨by rw [hjl, List.take_length]; simp, ?_⟩
    ktr_unf
    refine nm_loc ti.bd.ev ti.hr ?_
    obtain ⟨vs, p, pv⟩ := ti.lst
    rw [hjl, List.take_length] at pv
    ktr_unf
    exact h r vs _ _ ti.bd.keep nr0 ti.tab p pv
  | some q =>
    have hs := hsplit q hq
    generalize hpre : (qs.take j).flatMap tokT = pre at *
    generalize hpost : (qs.drop (j + 1)).flatMap tokT = post at *
    generalize hpat : qs.flatMap tokT = pat at *
    have hto : 0 < (tokT q).length := by cases q with | none => simp [tokT] | some c => simp only [tokT, sgn]; split <;> simp
    have hlt : pre.length < pat.length := by rw [hs]; simp only [List.length_append]; (first | lia | omega)
    first | refine pif_t (by simpa using hlt) ?_ | refine wif_t (by simpa using hlt) ?_ | rw [if_pos (by simpa using hlt)]
    ktr_unf
    obtain ⟨tp, hmp⟩ := ti.hp
    refine nm_loc ti.bd.ev hmp ?_
    ktr_unf
    refine nm_loc ti.bd.ev hmi ?_
    have at_ : ∀ (n c : Nat), (tokT q)[n]? = some c → pat[pre.length + n]? = some c := by
      intro n c hc
      have hn : n < (tokT q).length := by
        rcases Nat.lt_or_ge n (tokT q).length with z | z
        · exact z
        · rw [List.getElem?_eq_none z] at hc; cases hc
      rw [hs, List.getElem?_append_right (by (first | lia | omega)), show pre.length + n - pre.length = n by (first | lia | omega), List.getElem?_append_left hn]; exact hc
    have hq97 : q = none ∨ q = some 97 ∨ ∃ c, (c = 42 ∨ c = 91) ∧ q = some c := by
      cases q with
      | none => exact .inl rfl
      | some c =>
        rcases hsg c (List.mem_of_getElem? hq) with rfl | rfl | rfl
        · exact .inr (.inl rfl)
        · exact .inr (.inr ⟨42, .inl rfl, rfl⟩)
        · exact .inr (.inr ⟨91, .inr rfl, rfl⟩)
    have tkj : qs.take (j + 1) = qs.take j ++ [q] := take_snoc hq
    have hfin : ∀ (m' : Str → Option Value) (h' : Heap) (i' : Nat), TI w h₀ L st r b pat m' h' i' (qs.take j ++ [q]) → i' = pre.length + (tokT q).length → TI w h₀ L st r b pat m' h' ((qs.take (j + 1)).flatMap tokT).length (qs.take (j + 1)) := by
      intro m' h' i' x e
      rw [tkj, List.flatMap_append, hpre, List.length_append, List.flatMap_singleton, ← e]; exact x
    have hjl : j < qs.length := by
      rcases Nat.lt_or_ge j qs.length with z | z
      · exact z
      · rw [List.getElem?_eq_none z] at hq; cases hq
    rcases hq97 with rfl | rfl | ⟨c, hc, rfl⟩
    · -- a star
      refine it_S (l := pat) (j := pre.length) (c := 42) (by rw [if_neg (by (first | lia | omega))]) (by simpa using at_ 0 42 rfl) (by (first | lia | omega)) ?_
      refine st_loc ti.bd fun h9 X9 k9 => ?_
      have t9 := ti.store X9 k9
      ktr_unf
      refine nm_loc X9.ev (by exact hmi) ?_
      ktr_unf
      refine st_loc t9.bd fun h10 X10 k10 => ?_
      have t10 := t9.seti (i' := pre.length + 1) X10 k10 (by push_cast; rfl)
      ktr_unf
      refine nm_loc t10.bd.ev (by rfl) ?_
      ktr_unf
      first | refine pif_t (by rw [o_st]; rfl) ?_ | refine wif_t (by rw [o_st]; rfl) ?_ | rw [if_pos (by rw [o_st]; rfl)]
      ktr_unf
      refine isTrue_plain ?_
      refine nm_loc t10.bd.ev t10.hr ?_
      obtain ⟨vs, pl, pv⟩ := t10.lst
      have hvl : vs.length = (qs.take j).length := by rw [Paired.len' pv, List.length_map]
      have hvj : vs.length = j := by rw [hvl, List.length_take]; (first | lia | omega)
      refine truthy_L pl (by (first | lia | omega)) ?_
      by_cases hj0 : j = 0
      · have hv0 : vs = [] := List.length_eq_zero_iff.mp (by (first | lia | omega))
        subst hv0
        rw [if_pos (by decide), if_pos rfl]
        ktr_unf
        refine wpAny_Expr_any ?_
        ktr_unf
        refine nm_loc t10.bd.ev t10.ha ?_
        refine callW ?_
        ktr_unf
        refine nm_loc t10.bd.ev t10.hs ?_
        ktr_unf
        refine ⟨⟨_, _, t10.isb⟩, ?_⟩
        refine t10.add (q := none) nr0 (by simp; (first | lia | omega)) rfl fun h11 t11 => ?_
        ktr_unf
        exact ⟨qs.length - (j + 1), by (first | lia | omega), j + 1, _, h11, _, rfl, hjl, rfl, hfin _ _ _ t11 rfl⟩
      · obtain ⟨ws', x, rfl⟩ : ∃ ws' x, vs = ws' ++ [x] := by
          rcases List.eq_nil_or_concat vs with e | ⟨a, b, e⟩
          · subst e; simp at hvj; (first | lia | omega)
          · exact ⟨a, b, by simpa using e⟩
        first | refine pif_f (by simp) ?_ | refine wif_f (by simp) ?_ | rw [if_neg (by simp)]
        ktr_unf
        refine nm_loc t10.bd.ev t10.hr ?_
        ktr_unf
        refine neg_int ?_
        have hx : ∃ l tx', x = .str (S l) tx' := by
          have hlast : (ws' ++ [x])[j - 1]? = some x := by
            have : j - 1 = ws'.length := by rw [List.length_append, List.length_singleton] at hvj; (first | lia | omega)
            rw [this]; simp
          obtain ⟨p, hp1, hp2⟩ := Paired.get' pv hlast
          rw [List.getElem?_map] at hp1
          cases hqj : (qs.take j)[j - 1]? with
          | none => rw [hqj] at hp1; cases hp1
          | some q' =>
            rw [hqj] at hp1
            simp only [Option.map_some, Option.some.injEq] at hp1
            rw [List.getElem?_take_of_lt (by (first | lia | omega))] at hqj
            cases q' with
            | none => exact absurd (by rw [show j - 1 + 1 = j by (first | lia | omega)]; exact hq) (hss (j - 1) hqj)
            | some c' => subst hp1; obtain ⟨tt, e⟩ := hp2; exact ⟨_, tt, e⟩
        obtain ⟨lx, tx', rfl⟩ := hx
        refine sub_last pl (by rw [List.length_append] at hvj; (first | lia | omega)) ?_
        refine nm_loc t10.bd.ev t10.hs ?_
        refine wpAny_isNot_other (by rfl) (fun e => nomatch e) ?_
        ktr_unf
        first | refine pif_t rfl ?_ | refine wif_t rfl ?_ | rw [if_pos rfl]
        ktr_unf
        (try rw [if_pos rfl])
        ktr_unf
        refine wpAny_Expr_any ?_
        ktr_unf
        refine nm_loc t10.bd.ev t10.ha ?_
        refine callW ?_
        ktr_unf
        refine nm_loc t10.bd.ev t10.hs ?_
        ktr_unf
        refine ⟨⟨_, _, t10.isb⟩, ?_⟩
        refine t10.add (q := none) nr0 (by simp; (first | lia | omega)) rfl fun h11 t11 => ?_
        ktr_unf
        exact ⟨qs.length - (j + 1), by (first | lia | omega), j + 1, _, h11, _, rfl, hjl, rfl, hfin _ _ _ t11 rfl⟩
    · -- a letter
      refine it_S (l := pat) (j := pre.length) (c := 97) (by rw [if_neg (by (first | lia | omega))]) (by simpa using at_ 0 97 rfl) (by (first | lia | omega)) ?_
      refine st_loc ti.bd fun h9 X9 k9 => ?_
      have t9 := ti.store X9 k9
      ktr_unf
      refine nm_loc X9.ev (by exact hmi) ?_
      ktr_unf
      refine st_loc t9.bd fun h10 X10 k10 => ?_
      have t10 := t9.seti (i' := pre.length + 1) X10 k10 (by push_cast; rfl)
      ktr_unf
      refine nm_loc t10.bd.ev (by rfl) ?_
      ktr_unf
      first | refine pif_f (by rw [o_st]; decide) ?_ | refine wif_f (by rw [o_st]; decide) ?_ | rw [if_neg (by rw [o_st]; decide)]
      ktr_unf
      refine nm_loc t10.bd.ev (by rfl) ?_
      ktr_unf
      first | refine pif_f (by decide +kernel) ?_ | refine wif_f (by decide +kernel) ?_ | rw [if_neg (by decide +kernel)]
      ktr_unf
      refine nm_loc t10.bd.ev (by rfl) ?_
      ktr_unf
      first | refine pif_f (by rw [o_br]; decide) ?_ | refine wif_f (by rw [o_br]; decide) ?_ | rw [if_neg (by rw [o_br]; decide)]
      ktr_unf
      refine wpAny_Expr_any ?_
      ktr_unf
      refine nm_loc t10.bd.ev t10.ha ?_
      refine callW ?_
      ktr_unf
      refine nm_glob (v := .ref 99) (t10.bd.cx C) (by rfl) ?_
      refine callWith_K (t10.bd.cx C).k (by rfl) ?_
      ktr_unf
      refine nm_loc t10.bd.ev (by rfl) ?_
      ktr_unf
      refine ⟨(t10.bd.cx C).k, ?_⟩
      refine c_escape (d := d + 1) (t10.bd.cx C) (t10.bd.rm R) fun h11 t11 tk11 k11 => ?_
      have x11 := t10.kp k11
      ktr_unf
      refine ⟨⟨_, _, x11.isb⟩, ?_⟩
      refine x11.add (q := some 97) nr0 (by simp; (first | lia | omega)) ⟨_, rfl⟩ fun h12 t12 => ?_
      ktr_unf
      exact ⟨qs.length - (j + 1), by (first | lia | omega), j + 1, _, h12, _, rfl, hjl, rfl, hfin _ _ _ t12 rfl⟩
    · -- a bracket
      have htk : tokT (some c) = [91, c, 93] := by rcases hc with q | q <;> rw [q] <;> rfl
      have g0 := at_ 0 91 (by rw [htk]; rfl)
      have g1 := at_ 1 c (by rw [htk]; rfl)
      have g2 := at_ 2 93 (by rw [htk]; rfl)
      have hl3 : pre.length + 3 ≤ pat.length := by rw [hs, htk]; simp only [List.length_append, List.length_cons, List.length_nil]; (first | lia | omega)
      refine it_S (l := pat) (j := pre.length) (c := 91) (by rw [if_neg (by (first | lia | omega))]) (by simpa using g0) (by (first | lia | omega)) ?_
      refine st_loc ti.bd fun h9 X9 k9 => ?_
      have t9 := ti.store X9 k9
      ktr_unf
      refine nm_loc X9.ev (by exact hmi) ?_
      ktr_unf
      refine st_loc t9.bd fun h10 X10 k10 => ?_
      have t10 := t9.seti (i' := pre.length + 1) X10 k10 (by push_cast; rfl)
      ktr_unf
      refine nm_loc t10.bd.ev (by rfl) ?_
      ktr_unf
      first | refine pif_f (by rw [o_st, S_beq]; decide) ?_ | refine wif_f (by rw [o_st, S_beq]; decide) ?_ | rw [if_neg (by rw [o_st, S_beq]; decide)]
      ktr_unf
      refine nm_loc t10.bd.ev (by rfl) ?_
      ktr_unf
      first | refine pif_f (by decide +kernel) ?_ | refine wif_f (by decide +kernel) ?_ | rw [if_neg (by decide +kernel)]
      ktr_unf
      refine nm_loc t10.bd.ev (by rfl) ?_
      ktr_unf
      first | refine pif_t (by rw [o_br, S_beq]; decide) ?_ | refine wif_t (by rw [o_br, S_beq]; decide) ?_ | rw [if_pos (by rw [o_br, S_beq]; decide)]
      ktr_unf
      -- j = i
      refine nm_loc t10.bd.ev (by rfl) ?_
      refine st_loc t10.bd fun h11 X11 k11 => ?_
      have t11 := t10.store X11 k11
      ktr_unf
      refine nm_loc t11.bd.ev (by rfl) ?_
      refine nm_loc t11.bd.ev (by exact hmn) ?_
      ktr_unf
      first | refine pif_t (by simp; (first | lia | omega)) ?_ | refine wif_t (by simp; (first | lia | omega)) ?_ | rw [if_pos (by simp; (first | lia | omega))]
      ktr_unf
      refine nm_loc t11.bd.ev (by exact hmp) ?_
      ktr_unf
      refine nm_loc t11.bd.ev (by rfl) ?_
      refine it_S (l := pat) (j := pre.length + 1) (c := c) (by rw [if_neg (by (first | lia | omega))]; push_cast; rfl) g1 (by (first | lia | omega)) ?_
      ktr_unf
      first | refine pif_f (by rw [show Str.ofString "!" = S [33] by decide +kernel, S_beq]; rcases hc with q | q <;> rw [q] <;> decide) ?_ | refine wif_f (by rw [show Str.ofString "!" = S [33] by decide +kernel, S_beq]; rcases hc with q | q <;> rw [q] <;> decide) ?_ | rw [if_neg (by rw [show Str.ofString "!" = S [33] by decide +kernel, S_beq]; rcases hc with q | q <;> rw [q] <;> decide)]
      ktr_unf
      (try rw [if_neg (by decide)])
      ktr_unf
      refine nm_loc t11.bd.ev (by rfl) ?_
      refine nm_loc t11.bd.ev (by exact hmn) ?_
      ktr_unf
      first | refine pif_t (by simp; (first | lia | omega)) ?_ | refine wif_t (by simp; (first | lia | omega)) ?_ | rw [if_pos (by simp; (first | lia | omega))]
      ktr_unf
      refine nm_loc t11.bd.ev (by exact hmp) ?_
      ktr_unf
      refine nm_loc t11.bd.ev (by rfl) ?_
      refine it_S (l := pat) (j := pre.length + 1) (c := c) (by rw [if_neg (by (first | lia | omega))]; push_cast; rfl) g1 (by (first | lia | omega)) ?_
      ktr_unf
      first | refine pif_f (by rw [o_rb, S_beq]; rcases hc with q | q <;> rw [q] <;> decide) ?_ | refine wif_f (by rw [o_rb, S_beq]; rcases hc with q | q <;> rw [q] <;> decide) ?_ | rw [if_neg (by rw [o_rb, S_beq]; rcases hc with q | q <;> rw [q] <;> decide)]
      ktr_unf
      (try rw [if_neg (by decide)])
      ktr_unf
      refine while_rule PassesOwn.never (TrZ w h₀ L st r b s pat pre.length (qs.take j)) 1
        ⟨1, _, h11, _, .inl rfl, rfl, rfl, t11, _, by push_cast; rfl⟩ ?_
      rintro n s' ⟨z, m2, h12, t2, hz, rfl, rfl, t12, tj, hmj⟩
      refine cutQ fun P₀ hP₀ => ?_
      obtain ⟨ti2, hmi2⟩ := t12.hi
      obtain ⟨tn2, hmn2⟩ := t12.hn
      obtain ⟨tp2, hmp2⟩ := t12.hp
      ktr_unf
      refine nm_loc t12.bd.ev hmj ?_
      refine nm_loc t12.bd.ev hmn2 ?_
      ktr_unf
      first | refine pif_t (by rcases hz with rfl | rfl <;> simp <;> (first | lia | omega)) ?_ | refine wif_t (by rcases hz with rfl | rfl <;> simp <;> (first | lia | omega)) ?_ | rw [if_pos (by rcases hz with rfl | rfl <;> simp <;> (first | lia | omega))]
      ktr_unf
      refine nm_loc t12.bd.ev hmp2 ?_
      ktr_unf
      refine nm_loc t12.bd.ev hmj ?_
      rcases hz with rfl | rfl
      · refine it_S (l := pat) (j := pre.length + 1) (c := c) (by rw [if_neg (by (first | lia | omega))]) g1 (by (first | lia | omega)) ?_
        ktr_unf
        first | refine pif_t (by rw [o_rb]; rcases hc with q | q <;> rw [q] <;> decide +kernel) ?_ | refine wif_t (by rw [o_rb]; rcases hc with q | q <;> rw [q] <;> decide +kernel) ?_ | rw [if_pos (by rw [o_rb]; rcases hc with q | q <;> rw [q] <;> decide +kernel)]
        ktr_unf
        (try rw [if_pos rfl])
        ktr_unf
        refine nm_loc t12.bd.ev hmj ?_
        ktr_unf
        refine st_loc t12.bd fun h13 X13 k13 => ?_
        have t13 := t12.store X13 k13
        ktr_unf
        exact ⟨0, by (first | lia | omega), 2, _, h13, _, .inr rfl, rfl, rfl, t13, _, by push_cast; rfl⟩
      · refine it_S (l := pat) (j := pre.length + 2) (c := 93) (by rw [if_neg (by (first | lia | omega))]) g2 (by (first | lia | omega)) ?_
        ktr_unf
        first | refine pif_f (by rw [o_rb]; decide +kernel) ?_ | refine wif_f (by rw [o_rb]; decide +kernel) ?_ | rw [if_neg (by rw [o_rb]; decide +kernel)]
        ktr_unf
        (try rw [if_neg (by decide)])
        ktr_unf
        -- after the loop
        refine nm_loc t12.bd.ev hmj ?_
        refine nm_loc t12.bd.ev hmn2 ?_
        ktr_unf
        first | refine pif_f (by simp; (first | lia | omega)) ?_ | refine wif_f (by simp; (first | lia | omega)) ?_ | rw [if_neg (by simp; (first | lia | omega))]
        ktr_unf
        refine nm_loc t12.bd.ev hmp2 ?_
        ktr_unf
        refine nm_loc t12.bd.ev hmi2 ?_
        ktr_unf
        refine nm_loc t12.bd.ev hmj ?_
        ktr_unf
        have kS := Kp.push h12 { cls := .type "slice", data := .fields #[.int ((pre.length + 1 : Nat) : Int) ti2, .int ((pre.length + 2 : Nat) : Int) tj, .none] }
        have tS := t12.kp kS
        refine sl_ss (l := pat) (i := ((pre.length + 1 : Nat) : Int)) (j := ((pre.length + 2 : Nat) : Int)) ⟨_, Heap.get?_push_size _ rfl, rfl, rfl⟩ (fun t7 k7 => ?_) (by (first | lia | omega))
        have hcut : (pat.take (clampI ((pre.length + 2 : Nat) : Int) pat.length)).drop (clampI ((pre.length + 1 : Nat) : Int) pat.length) = [c] := by
          have := (sign_at pat (pre.length + 1) c).mpr g1
          rwa [show (((pre.length + 1 : Nat) : Int) + 1) = ((pre.length + 2 : Nat) : Int) by push_cast; (first | lia | omega)] at this
        rw [hcut]
        refine st_loc tS.bd fun h13 X13 k13 => ?_
        have t13 := tS.store X13 k13
        ktr_unf
        refine nm_loc t13.bd.ev (by rfl) ?_
        refine P.notIn_str ?_
        ktr_unf
        first | refine pif_t (by rcases hc with q | q <;> rw [q] <;> decide +kernel) ?_ | refine wif_t (by rcases hc with q | q <;> rw [q] <;> decide +kernel) ?_ | rw [if_pos (by rcases hc with q | q <;> rw [q] <;> decide +kernel)]
        ktr_unf
        refine nm_loc t13.bd.ev (by rfl) ?_
        with_reducible refine GM.replace ?_
        ktr_unf
        refine' SC.replace ?u1 ?u2 ?u3 (by decide +kernel) (by rw [S_len, show (Str.ofString "\\\\").length = 2 by decide +kernel]; exact Nat.le_of_ble_eq_true rfl) (fun t8 k8 => ?_)
        case u1 => exact Nat.succ_ne_zero _
        case u2 => exact Nat.succ_ne_zero _
        case u3 => exact Nat.ne_of_lt (Nat.lt_succ_self _)
        rw [show Txt.replace (S [c]) (Str.ofString "\\") (Str.ofString "\\\\") = S [c] by rcases hc with q | q <;> rw [q] <;> decide +kernel]
        refine st_loc t13.bd fun h14 X14 k14 => ?_
        have t14 := t13.store X14 k14
        ktr_unf
        refine nm_glob (v := .ref 87) (t14.bd.cx C) (by rfl) ?_
        have e87 : ∃ o, (KF w.params).lookup 87 = some o ∧ o.cls = .type "re.Pattern" ∧ o.dict = none := ⟨_, rfl, rfl, rfl⟩
        obtain ⟨o87, l1, l2, l3⟩ := e87
        have g87 : ∃ o, h14.get? 87 = some o ∧ o.cls = .type "re.Pattern" := ⟨o87, (t14.bd.cx C).k _ _ l1, l2⟩
        refine getMethod_builtin (T := "re.Pattern") (id := "re.Pattern.sub") g87 rp_plain rp_slot rp_type (fun a e => by cases e; exact ⟨o87, (t14.bd.cx C).k _ _ l1, l3⟩) ?_
        ktr_unf
        refine eval_lam (t14.bd.cx C) t14.tab (by rfl) (by rfl) (by rfl) (by rfl) fun f h15 t9 hk15 tab15 hf15 => ?_
        have t15 := t14.ext hk15 tab15 n101
        obtain ⟨of, hof, hofc⟩ := hf15
        ktr_unf
        refine nm_loc t15.bd.ev (by rfl) ?_
        ktr_unf
        refine sub_c (c := c) (t15.bd.cx C) hc hof hofc fun h16 tk16 k16 kk16 => ?_
        have t16 := t15.kp kk16
        refine st_loc t16.bd fun h17 X17 k17 => ?_
        have t17 := t16.store X17 k17
        ktr_unf
        refine nm_loc t17.bd.ev (by exact hmj) ?_
        ktr_unf
        refine st_loc t17.bd fun h18 X18 k18 => ?_
        have t18 := t17.seti (i' := pre.length + 3) X18 k18 (by push_cast; (first | lia | omega))
        ktr_unf
        refine isTrue_plain ?_
        refine nm_loc t18.bd.ev (by rfl) ?_
        refine P.truthy_str (by rw [S_len]; simp) ?_
        ktr_unf
        first | refine pif_f (by rw [S_len]; simp) ?_ | refine wif_f (by rw [S_len]; simp) ?_ | rw [if_neg (by rw [S_len]; simp)]
        ktr_unf
        refine nm_loc t18.bd.ev (by rfl) ?_
        ktr_unf
        first | refine pif_f (by rw [show Str.ofString "!" = S [33] by decide +kernel, S_beq]; rcases hc with q | q <;> rw [q] <;> decide) ?_ | refine wif_f (by rw [show Str.ofString "!" = S [33] by decide +kernel, S_beq]; rcases hc with q | q <;> rw [q] <;> decide) ?_ | rw [if_neg (by rw [show Str.ofString "!" = S [33] by decide +kernel, S_beq]; rcases hc with q | q <;> rw [q] <;> decide)]
        ktr_unf
        refine nm_loc t18.bd.ev (by rfl) ?_
        ktr_unf
        refine it_S (l := [c]) (j := 0) (c := c) (by rfl) rfl (Nat.le_of_ble_eq_true rfl) ?_
        ktr_unf
        first | refine pif_f (by rw [show Str.ofString "!" = S [33] by decide +kernel, S_beq]; rcases hc with q | q <;> rw [q] <;> decide) ?_ | refine wif_f (by rw [show Str.ofString "!" = S [33] by decide +kernel, S_beq]; rcases hc with q | q <;> rw [q] <;> decide) ?_ | rw [if_neg (by rw [show Str.ofString "!" = S [33] by decide +kernel, S_beq]; rcases hc with q | q <;> rw [q] <;> decide)]
        ktr_unf
        refine nm_loc t18.bd.ev (by rfl) ?_
        ktr_unf
        refine it_S (l := [c]) (j := 0) (c := c) (by rfl) rfl (Nat.le_of_ble_eq_true rfl) ?_
        ktr_unf
        refine in_tup2 fun h19 k19 => ?_
        have t19 := t18.kp k19
        ktr_unf
        rcases hc with rfl | rfl
        · first | refine pif_f (by decide +kernel) ?_ | refine wif_f (by decide +kernel) ?_ | rw [if_neg (by decide +kernel)]
          ktr_unf
          refine wpAny_Expr_any ?_
          ktr_unf
          refine nm_loc t19.bd.ev t19.ha ?_
          refine callW ?_
          ktr_unf
          refine join_br (l := [42]) (Nat.le_of_ble_eq_true rfl) (fun tk P hP => nm_loc t19.bd.ev (by rfl) hP) fun t' k' => ?_
          ktr_unf
          refine ⟨⟨_, _, t19.isb⟩, ?_⟩
          refine t19.add (q := some 42) nr0 (by simp; (first | lia | omega)) ⟨_, rfl⟩ fun hz tz => ?_
          ktr_unf
          exact ⟨qs.length - (j + 1), by (first | lia | omega), j + 1, _, hz, _, rfl, hjl, rfl, hfin _ _ _ tz (by rw [htk]; rfl)⟩
        · first | refine pif_t (by decide +kernel) ?_ | refine wif_t (by decide +kernel) ?_ | rw [if_pos (by decide +kernel)]
          ktr_unf
          refine nm_loc t19.bd.ev (by rfl) ?_
          refine add_str (fun t20 k20 => ?_) (by rw [S_len, sizeLine_is, show (Str.ofString "\\").length = 1 by decide +kernel]; exact Nat.le_of_ble_eq_true rfl)
          rw [show Str.ofString "\\" ++ S [91] = S [92, 91] by decide +kernel]
          refine st_loc t19.bd fun h21 X21 k21 => ?_
          have t21 := t19.store X21 k21
          ktr_unf
          refine wpAny_Expr_any ?_
          ktr_unf
          refine nm_loc t21.bd.ev t21.ha ?_
          refine callW ?_
          ktr_unf
          refine join_br (l := [92, 91]) (Nat.le_of_ble_eq_true rfl) (fun tk P hP => nm_loc t21.bd.ev (by rfl) hP) fun t' k' => ?_
          ktr_unf
          refine ⟨⟨_, _, t21.isb⟩, ?_⟩
          refine t21.add (q := some 91) nr0 (by simp; (first | lia | omega)) ⟨_, rfl⟩ fun hz tz => ?_
          ktr_unf
          exact ⟨qs.length - (j + 1), by (first | lia | omega), j + 1, _, hz, _, rfl, hjl, rfl, hfin _ _ _ tz (by rw [htk]; rfl)⟩
end

section
open PySem PySem.W PySem.Calls PyProof.Rows PyProof.V
variable [Lo]
omit [Lo] in
theorem tabE {h h' : Heap} (t : Tab h) (k : ∀ b o, h.get? b = some o → h'.get? b = some o) : Tab h' := let ⟨ps, e, r⟩ := t; ⟨ps, k _ _ e, r⟩
omit [Lo] in
theorem tabE' {h h' : Heap} {x : Addr} (t : Tab h) (n : x ≠ 101) (k : ∀ b, b ≠ x → ∀ o, h.get? b = some o → h'.get? b = some o) : Tab h' := let ⟨ps, e, r⟩ := t; ⟨ps, k _ (Ne.symm n) _ e, r⟩
theorem cellT {h h' : Heap} {c : Addr} {v : Option Value} (t : Tab h) (x : h.IsCell c v) (k : Kp (wo [101] h) h') : h'.IsCell c v := by
  obtain ⟨o, e, d⟩ := x
  have hc : c ≠ 101 := fun q => by obtain ⟨ps, e', _⟩ := t; rw [q, e'] at e; cases e; cases d
  exact cell_kp (h := wo [101] h) ⟨o, (wo_get (by simpa using hc)).trans e, d⟩ k
/-- kept, the code table 101 left out -/
theorem kr_tab : KR (fun a b => Kp (wo [101] a) b) Tab (fun x => x = 101) where
  of h := Kp.of fun x o e => h x o (wo_in e).2
  tr k k' := (kp_wo k fun z hz => by rw [List.mem_singleton.mp hz]; exact wo_none (by simp)).trans k'
  ext k n h := kp_ext k (wo_kp.none n) h
  off k z e nf := k.off _ _ ((wo_get (by simpa using z)).trans e) nf
  ns k z n := ns_kp (n.at' fun o e => (wo_get (by simpa using z)).trans e) k
  cell k z n := let ⟨o, e, d⟩ := n; cell_kp (h := wo [101] _) ⟨o, (wo_get (by simpa using z)).trans e, d⟩ k
  tof t h := tabE t h
  text t z h := tabE' t z h
/-- what one turn of a list comprehension has to bring -/
def TurnT (w : World) (A : Around) (env : Env) (scope : Scope) (cl : List (Str × Addr)) (cmo : Str → Option Value) (x : Str) (ifs : List Expr) (elt : Expr) (n : Nat) (P : Nat → Value → Prop)
    (J : (Addr → Prop) → Heap → List Value → List Value → Prop) (s₁ : Shared) : Prop := TurnG (fun a b => Kp (wo [101] a) b) Tab w A env scope cl cmo x ifs elt n P J s₁
/-- what a list comprehension has to bring -/
inductive LcOkT (w : World) (A : Around) (env : Env) (scope : Scope) (cl : List (Str × Addr)) (cmo : Str → Option Value) (x : Str) (ifs : List Expr) (elt : Expr) (J : (Addr → Prop) → Heap → List Value → List Value → Prop) (Q : Value → Shared → Prop) (xv : Value) (s₁ : Shared) : Prop
  | mk (old : List Addr) (n : Nat) (P : Nat → Value → Prop) (S : Src w A xv s₁ old n P) (hT : Tab s₁.heap) (hT0 : 101 ∉ old) (sz : n ≤ sizeLine) (cells : ∀ n c, cl.lookup n = some c → s₁.heap.IsCell c (cmo n)) (turn : TurnT w A env scope cl cmo x ifs elt n P J s₁)
    (fin : ∀ D h' t' (ys vs : List Value) pv, s₁.heap.get? D = none → Kp (wo [101] s₁.heap) h' → Tab h' → h'.PlainList D ys.toArray → vs.length = n → (∀ j v, vs[j]? = some v → P j v) → J pv h' vs ys → pv D → (∀ b, pv b → s₁.heap.get? b = none) → Q (.ref D) { s₁ with heap := h', toks := t' }) : LcOkT w A env scope cl cmo x ifs elt J Q xv s₁
section
variable {w : World} {A : Around} {E : Value → Shared → Prop} {env : Env} {s : Shared}
theorem lcT {elt iter : Expr} {x : Str} {px : Pos} {ifs : List Expr} {scope : Scope} {pos : Pos} {cl : List (Str × Addr)} {Q : Value → Shared → Prop} {cmo : Str → Option Value}
    (J : (Addr → Prop) → Heap → List Value → List Value → Prop)
    (hclos : closureFor scope env = pure cl) (hkind : scope.kind = .function) (hnames : ∀ y ∈ scope.names, y.2 = .local → scope.names.lookup y.1 = some .local)
    (hx : (scope.names.lookup x = some .local ∧ ∀ C : Addr, (cellsFrom (C + 1) scope.names []).lookup x = none) ∨ (scope.names.lookup x ≠ some .local) ∧ ∀ C : Addr, (cenvOf scope cl C env).kindOf x = some .cell ∧ ∃ c, (cellsFrom (C + 1) scope.names []).lookup x = some c)
    (hJ : ∀ pv h h' vs ys, (∀ b o, ¬ pv b → h.get? b = some o → o.cls ≠ .type "frame" → h'.get? b = some o) → J pv h vs ys → J pv h' vs ys) (hJ0 : ∀ pv h, J pv h [] [])
    (h : wpAny (model PW w) A (eval iter env) (LcOkT w A env scope cl cmo x ifs elt J Q) E s)
    (hs : ∀ x, foldedSetIterable iter env x = pure x := by intro _; rfl) :
    wpAny (model PW w) A (eval (.ListComp elt [⟨.Name x px, iter, ifs, 0⟩] scope pos) env) Q E s := by
  rw [eval_ListComp]
  refine wpAny_comprehension_free (use := none) rfl hs hclos hkind hnames (wpAny_mono h (fun xv s₁ h₁ => ?_) fun _ _ e => e)
  obtain ⟨old, n, P, S, hT, hT0, hsz, hcl, turn, hQ⟩ := h₁
  refine S.it _ _ fun o St W hst hof hlive => ?_
  have n101 : ∀ a, s₁.heap.get? a = none → ¬ a = 101 := fun a ha q => by obtain ⟨ps, e, _⟩ := hT; rw [q, e] at ha; cases ha
  refine comp_coreG kr_tab (RR := fun acc C => compPost (model PW w) A E none Q acc C) W hst hof hlive S.old hsz hkind hx (fun n c h => ⟨hcl n c h, fun q => ?_⟩) hJ hJ0 hT n101 (fun b hb q => hT0 (q ▸ hb)) turn ?_
  · obtain ⟨o, e, d⟩ := hcl n c h
    obtain ⟨ps, e', _⟩ := hT
    rw [q, e'] at e
    cases e
    cases d
  intro D C h' tk m' ys vs pv hD hC hDC pD pC hn hl hlen hP hJv hk htb hpv
  exact ⟨m', hn, fun h'' hs'' => hQ D h'' tk ys vs pv hD (kp_sb hk hs'' (wo_kp.none hC)) (tabE' htb (fun q => by obtain ⟨ps, e, _⟩ := hT; rw [q, e] at hC; cases hC) fun b hb o e => hs''.extBut b o hb e) (hl.extBut hs''.extBut hDC) hlen hP (hJ _ _ _ _ _ (fun b o np e _ => hs''.extBut b o (fun q => np (q ▸ pC)) e) hJv) pD hpv⟩

end
end

section
open PySem PySem.W PySem.Calls PyProof.Rows PyProof.V
variable [Lo]
/-- what one turn of a dict comprehension has to bring -/
def TurnD (w : World) (A : Around) (env : Env) (scope : Scope) (cl : List (Str × Addr)) (cmo : Str → Option Value) (x : Str) (kx vx : Expr) (n : Nat) (P : Nat → Value → Prop)
    (J : (Addr → Prop) → Heap → List Value → List (Str × Value) → Prop) (s₁ : Shared) : Prop :=
  ∀ (C : Addr) (pv : Addr → Prop) (vs : List Value) (ys : List (Str × Value)) (v : Value) (s₃ : Shared) (m cm : Str → Option Value) (E' : Value → Shared → Prop),
    vs.length < n → P vs.length v → (∀ j u, vs[j]? = some u → P j u) → J pv s₃.heap vs ys → Kp s₁.heap s₃.heap → (∀ b, pv b → ∃ o, s₃.heap.get? b = some o) → (∀ b, pv b → s₁.heap.get? b = none) → Ev (cenvOf scope cl C env) m cm s₃.heap →
    (scope.names.lookup x = some .local → m x = some v) → (∀ c, (cellsFrom (C + 1) scope.names []).lookup x = some c → cm x = some v) → (∀ y, (cellsFrom (C + 1) scope.names []).lookup y = none → cm y = cmo y) →
    wpAny (model PW w) A (eval kx (cenvOf scope cl C env)) (fun kv s₄ => ∃ k tk h₄ t₄, kv = .str k tk ∧ s₄ = { s₃ with heap := h₄, toks := t₄ } ∧ Kp s₃.heap h₄ ∧
      wpAny (model PW w) A (eval vx (cenvOf scope cl C env)) (fun y s₅ => ∃ h₅ t₅, s₅ = { s₃ with heap := h₅, toks := t₅ } ∧ Kp h₄ h₅ ∧ J pv h₅ (vs ++ [v]) (stored ys k y)) E' s₄) E' s₃
/-- what holds between the turns of a dict comprehension -/
inductive CInvD (w : World) (s₁ : Shared) (I : Addr) (oc : List (Str × Addr)) (n : Nat) (P : Nat → Value → Prop) (St : Nat → Heap → Prop) (J : Heap → List Value → List (Str × Value) → Prop) (k : Nat) (s' : Shared) : Prop
  | mk (h' : Heap) (tk : Nat) (m' ow : Str → Option Value) (ys : List (Str × Value)) (vs : List Value) (e : s' = { s₁ with heap := h', toks := tk }) (st : St vs.length h') (acc : DK w h' (I + 1) ys) (yl : ys.length ≤ vs.length) (ns : h'.Ns (I + 2) m')
    (cells : ∀ y c, oc.lookup y = some c → h'.IsCell c (ow y)) (p : ∀ j v, vs[j]? = some v → P j v) (le : vs.length ≤ n) (hk : k = n + 1 - vs.length) (j : J h' vs ys) (kp : Kp s₁.heap h') : CInvD w s₁ I oc n P St J k s'
section
variable {w : World} {A : Around} {E : Value → Shared → Prop} {env : Env}
open Classical in
theorem comp_coreD {kx vx iter : Expr} {x : Str} {px : Pos} {scope : Scope} {pos : Pos} {cl : List (Str × Addr)} {cmo : Str → Option Value} {s₁ : Shared} {old : List Addr} {n : Nat} {P : Nat → Value → Prop} {St : Nat → Heap → Prop} {o : Obj}
    {J : (Addr → Prop) → Heap → List Value → List (Str × Value) → Prop} {RR : Value → Addr → Result → Shared → Prop}
    (W : Walks PW w A s₁.heap.objs.size (s₁.heap.objs.size :: old) [s₁.heap.objs.size] n P St) (hst : St 0 (s₁.heap.push o)) (hof : o.isFreed = false) (hlive : ∀ i h, St i h → ∃ o', h.get? s₁.heap.objs.size = some o' ∧ o'.cls ≠ .type "frame" ∧ o'.cls ≠ .type "cell")
    (hold : ∀ b ∈ old, ∃ o, s₁.heap.get? b = some o ∧ o.cls ≠ .type "frame" ∧ o.cls ≠ .type "cell") (hsz : n ≤ sizeLine)
    (hkind : scope.kind = .function) (hx : (scope.names.lookup x = some .local ∧ ∀ C : Addr, (cellsFrom (C + 1) scope.names []).lookup x = none) ∨ (scope.names.lookup x ≠ some .local) ∧ ∀ C : Addr, (cenvOf scope cl C env).kindOf x = some .cell ∧ ∃ c, (cellsFrom (C + 1) scope.names []).lookup x = some c)
    (hcl : ∀ n c, cl.lookup n = some c → s₁.heap.IsCell c (cmo n))
    (hJ : ∀ pv h h' vs ys, (∀ b o, ¬ pv b → h.get? b = some o → o.cls ≠ .type "frame" → h'.get? b = some o) → J pv h vs ys → J pv h' vs ys) (hJ0 : ∀ pv h, J pv h [] [])
    (turn : TurnD w A env scope cl cmo x kx vx n P J s₁)
    (hRR : ∀ D C h' tk m' ys (vs : List Value) pv, s₁.heap.objs.size < D → s₁.heap.get? D = none → s₁.heap.get? C = none → D ≠ C → pv D → pv C → h'.Ns C m' → DK w h' D ys → vs.length = n → (∀ j v, vs[j]? = some v → P j v) → J pv h' vs ys →
      Kp s₁.heap h' → (∀ b, pv b → s₁.heap.get? b = none) → RR (.ref D) C (.ok .next) { s₁ with heap := h', toks := tk }) :
    wpAny (model PW w) A newDict (fun acc s₃ => wpAny (model PW w) A (newFunctionEnv scope env.globals cl [] env.qual none .none (some env)) (fun cenv s₄ =>
      codeAny (model PW w) A (.compStart (.DictComp kx vx [⟨.Name x px, iter, [], 0⟩] scope pos) 0 (.ref s₁.heap.objs.size) acc { cenv with scope := relabel scope env }) (RR acc cenv.locals) s₄) E s₃) E { s₁ with heap := s₁.heap.push o } := by
  show wpAny _ A (newObj (.type "dict") (.dict #[])) _ _ _
  refine wpAny_newObj_type (new_cenv ?_)
  dsimp only
  generalize hH2 : (s₁.heap.push o).push { cls := .type "dict", data := .dict #[] } = H2
  have hD : (s₁.heap.push o).objs.size = s₁.heap.objs.size + 1 := Heap.size_push ..
  have hC : H2.objs.size = s₁.heap.objs.size + 2 := by rw [← hH2, Heap.size_push, hD]
  rw [hD, hC]
  generalize hI : s₁.heap.objs.size = I at *
  generalize hH3 : pushCells (H2.push { cls := .type "dict", data := .dict #[] }) scope.names = H3
  have k12 : ∀ b o', s₁.heap.get? b = some o' → H2.get? b = some o' := fun b o' e => by rw [← hH2]; exact Heap.get?_push_of_some _ (Heap.get?_push_of_some _ e)
  have k23 : ∀ b o', H2.get? b = some o' → H3.get? b = some o' := fun b o' e => by rw [← hH3]; exact pushCells_keeps _ _ _ _ (Heap.get?_push_of_some _ e)
  have hIobj : H3.get? I = some o := k23 _ _ (by rw [← hH2, ← hI]; exact Heap.get?_push_of_some _ (Heap.get?_push_size _ hof))
  have hDobj : H3.get? (I + 1) = some { cls := .type "dict", data := .dict #[] } := k23 _ _ (by rw [← hH2, ← hD]; exact Heap.get?_push_size _ rfl)
  have hCns : H3.Ns (I + 2) fun _ => none := by rw [← hH3, ← hC]; exact (Heap.Ns.new H2 (.type "dict")).keeps (pushCells_keeps _ _)
  have ok := cellsFrom_ok scope.names (H2.push { cls := .type "dict", data := .dict #[] }) (I + 3) [] ⟨fun _ _ hm => (nomatch hm), List.Pairwise.nil⟩ (by rw [Heap.size_push, hC]; exact Nat.le_refl _)
  rw [Heap.size_push, hC, hH3] at ok
  generalize hoc : cellsFrom (I + 2 + 1) scope.names [] = oc at ok ⊢
  have fr : ∀ a, I ≤ a → s₁.heap.get? a = none := fun a ha => ge_none (by rw [hI]; exact ha)
  have l1 : I ≤ I + 1 := Nat.le_succ I
  have l2 : I ≤ I + 2 := Nat.le_add_right I 2
  have n10 : I + 1 ≠ I := Nat.succ_ne_self I
  have n20 : I + 2 ≠ I := Nat.ne_of_gt (Nat.lt_add_of_pos_right (by decide))
  have n21 : I + 2 ≠ I + 1 := Nat.succ_ne_self (I + 1)
  have n01 : I ≠ I + 1 := n10.symm
  have n02 : I ≠ I + 2 := n20.symm
  have n12 : I + 1 ≠ I + 2 := n21.symm
  let pv : Addr → Prop := pvOf I oc
  have pvn : ∀ b, pv b → s₁.heap.get? b = none := by
    rintro b (q | q | q | ⟨y, hy⟩)
    · subst b; exact fr _ (Nat.le_refl _)
    · subst b; exact fr _ (by first | assumption | lia | omega)
    · subst b; exact fr _ (by first | assumption | lia | omega)
    · exact fr _ (by have := (ok.empty y b (mem_of_lookup hy)).2; (first | lia | omega))
  have ocb : ∀ y c, oc.lookup y = some c → c ≠ I ∧ c ≠ I + 1 ∧ c ≠ I + 2 := fun y c hy => by
    have := (ok.empty y c (mem_of_lookup hy)).2
    exact ⟨fun q => by rw [q] at this; (first | lia | omega), fun q => by rw [q] at this; (first | lia | omega), fun q => by rw [q] at this; (first | lia | omega)⟩
  have hst3 : St 0 H3 := W.frame _ _ _ hst fun b hb o' e => by
    rcases List.mem_cons.mp hb with q | hb
    · subst b; exact k23 _ _ (by rw [← hH2]; exact Heap.get?_push_of_some _ e)
    · exact k23 _ _ (by rw [← hH2]; exact Heap.get?_push_of_some _ e)
  have loop : ∀ s₃ : Shared, s₃ = { s₁ with heap := H3 } →
      codeAny (model PW w) A (.compLoop (.DictComp kx vx [⟨.Name x px, iter, [], 0⟩] scope pos) 0 (.ref I) (.ref (I + 1)) (cenvOf scope cl (I + 2) env)) (RR (.ref (I + 1)) (I + 2)) s₃ := by
    rintro s₃ rfl
    refine codeAny_compLoop_testsD
      (CInvD w s₁ I oc n P St (J pv)) ?_ (n + 1)
      ⟨H3, _, _, fun _ => none, [], [], rfl, hst3, ⟨_, #[], 0, hDobj, ⟨rfl, rfl, rfl⟩, rfl, fun _ he => by simp at he, Pairs.nil, List.nodup_nil⟩, Nat.le_refl _, hCns, fun y c hy => (ok.empty y c (mem_of_lookup hy)).1, by simp, Nat.zero_le _, rfl, hJ0 _ _, Kp.of fun b o' e => k23 _ _ (k12 _ _ e)⟩
    rintro k s' ⟨H, tk, m', ow, ys, vs, rfl, hst', hacc', hyl, hn', how, hP, hi, rfl, hJv, hk⟩
    have live : ∀ b, pv b → ∃ o, H.get? b = some o := by
      rintro b (q | q | q | ⟨y, hy⟩)
      · subst b; obtain ⟨o', e, _⟩ := hlive _ _ hst'; exact ⟨o', e⟩
      · subst b; obtain ⟨o', es, ep, e, _⟩ := hacc'; exact ⟨_, e⟩
      · subst b; obtain ⟨_, _, _, e, _⟩ := hn'; exact ⟨_, e⟩
      · obtain ⟨_, e, _⟩ := how y b hy; exact ⟨_, e⟩
    by_cases hlt : vs.length < n
    · refine W.item vs.length _ _ _ hlt hst' fun v h₁ tk₁ hPv hst₁ hk₁ => ?_
      have offI : ∀ b, b ≠ I → ∀ o', H.get? b = some o' → h₁.get? b = some o' := fun b hb o' e => hk₁ b o' (by simpa using hb) e
      have hn1 : h₁.Ns (I + 2) m' := hn'.at' fun o' e => offI _ (by first | assumption | lia | omega) _ e
      have hacc1 : DK w h₁ (I + 1) ys := hacc'.at fun o' e => offI _ (by first | assumption | lia | omega) _ e
      have how1 : ∀ y c, oc.lookup y = some c → h₁.IsCell c (ow y) := fun y c hy => by obtain ⟨o', e, d⟩ := how y c hy; exact ⟨o', offI c (ocb y c hy).1 _ e, d⟩
      have hK1 : Kp s₁.heap h₁ := kp_ext hk (fr _ (Nat.le_refl _)) offI
      have hJ1 : J pv h₁ vs ys := hJ _ _ _ _ _ (fun b o' np e _ => offI b (fun q => np (.inl q)) _ e) hJv
      refine comp_store kr_kp hkind hx hoc ok.apart pvn ocb (fun _ _ => id) hold (St := St (vs.length + 1)) (Acc := fun h => DK w h (I + 1) ys) (J := fun h => J pv h vs ys) (fun _ _ k z => W.frame _ _ _ z k) (fun _ _ k z => z.at fun o' e => k _ e) (fun _ _ k z => hJ _ _ _ _ _ k z) hn1 hacc1 how1 hK1 trivial hJ1 hst₁ fun h₂ tk₂ m₂ ow₂ cs => ?_
      obtain ⟨hn₂, hacc₂, how₂, hK₂, _, hJ₂, hst₂, hmx, hcx⟩ := cs
      have live₂ : ∀ b, pv b → ∃ o, h₂.get? b = some o := by
        rintro b (q | q | q | ⟨y, hy⟩)
        · subst b; obtain ⟨o', e, _⟩ := hlive _ _ hst₂; exact ⟨o', e⟩
        · subst b; obtain ⟨o', es, ep, e, _⟩ := hacc₂; exact ⟨_, e⟩
        · subst b; obtain ⟨_, _, _, e, _⟩ := hn₂; exact ⟨_, e⟩
        · obtain ⟨_, e, _⟩ := how₂ y b hy; exact ⟨_, e⟩
      have hP' := snoc_all hP hPv
      -- what a turn leaves as it was
      have after : ∀ h₄, Kp h₂ h₄ → CAft I oc (St (vs.length + 1)) (Kp s₁.heap) (fun h => DK w h (I + 1) ys) m₂ ow₂ h₄ := fun h₄ k =>
        ⟨W.frame _ _ _ hst₂ fun b hb o' e => k.off b o' e (by
            rcases List.mem_cons.mp hb with q | hb
            · subst b; obtain ⟨o2, e2, c2, _⟩ := hlive _ _ hst₂; rw [e] at e2; cases e2; exact c2
            · obtain ⟨o2, e2, c2, _⟩ := hold b hb
              have := hK₂.off b o2 e2 c2
              rw [e] at this; cases this; exact c2),
          dk_kp hacc₂ k, ns_kp hn₂ k, fun y c hy => cell_kp (how₂ y c hy) k, hK₂.trans k⟩
      refine wpAny_tests_nil ?_
      rw [if_pos rfl]
      refine wpAny_mono (turn (I + 2) pv vs ys v _ m₂ (fun y => match oc.lookup y with | some _ => ow₂ y | none => cmo y) _ hlt hPv hP hJ₂ hK₂ live₂ pvn ⟨hn₂, fun y c hc => ?_⟩ hmx (fun c hc => ?_) (fun y hy => ?_)) (fun kv s₄ h₄ => ?_) fun _ _ e => e
      · have hc' : (oc ++ cl).lookup y = some c := by rw [← hoc]; exact hc
        rw [lookup_app] at hc'
        cases hq : oc.lookup y with
        | some c' => rw [hq] at hc'; cases hc'; exact how₂ y c hq
        | none => rw [hq] at hc'; exact cell_kp (hcl y c hc') hK₂
      · rw [hoc] at hc; simp only [hc]; exact hcx c hc
      · rw [hoc] at hy; simp only [hy]
      · obtain ⟨kk, tkk, H4, t4, rfl, rfl, k4, rest⟩ := h₄
        refine wpAny_mono rest (fun y s₅ h₅ => ?_) fun _ _ e => e
        obtain ⟨H5, t5, rfl, k5, hJ5⟩ := h₅
        obtain ⟨a1, a2, a3, a4, a5⟩ := after H5 (k4.trans k5)
        refine wpAny_dictSet_pairs (strKind_is _ _ _ _) a2 (fun H6 hl6 hs6 => ?_) (by first | assumption | lia | omega)
        have off6 : ∀ b, b ≠ I + 1 → ∀ o', H5.get? b = some o' → H6.get? b = some o' := fun b hb o' e => hs6.extBut b o' hb e
        have hsl := stored_length_le ys kk y
        refine ⟨n + 1 - (vs.length + 1), by (first | lia | omega), H6, t5 + 1, m₂, ow₂, PySem.stored ys kk y, vs ++ [v], rfl, ?_, hl6, (by rw [List.length_append, List.length_singleton]; (first | lia | omega)), a3.at' fun o' e => off6 _ (by first | assumption | lia | omega) _ e, fun z c hz => ?_, hP', (by rw [List.length_append, List.length_singleton]; exact hlt), (by rw [List.length_append, List.length_singleton]), ?_, ?_⟩
        · have := W.frame _ _ H6 a1 fun b hb o' e => off6 b ((List.mem_cons.mp hb).elim (fun q => q ▸ n01) fun hb => let ⟨_, e', _⟩ := hold b hb; nn (fr _ l1) e') _ e
          simpa using this
        · obtain ⟨o', e, d⟩ := a4 z c hz; exact ⟨o', off6 c (ocb z c hz).2.1 _ e, d⟩
        · exact hJ _ _ _ _ _ (fun b o' np e _ => off6 b (fun q => np (.inr (.inl q))) _ e) hJ5
        · exact kp_ext a5 (fr _ l1) off6
    · have hin : vs.length = n := by (first | lia | omega)
      refine W.done _ _ _ (hin ▸ hst') fun h₁ tk₁ hk₁ => ?_
      have offI : ∀ b, b ≠ I → ∀ o', H.get? b = some o' → h₁.get? b = some o' := fun b hb o' e => hk₁ b o' (by simpa using hb) e
      refine hRR (I + 1) (I + 2) h₁ tk₁ m' ys vs pv (Nat.lt_succ_self _) (fr _ (by first | assumption | lia | omega)) (fr _ (by first | assumption | lia | omega)) (Nat.ne_of_lt (Nat.lt_succ_self _)) (.inr (.inl rfl)) (.inr (.inr (.inl rfl))) (hn'.at' fun o' e => offI _ (by first | assumption | lia | omega) _ e) (hacc'.at fun o' e => offI _ (by first | assumption | lia | omega) _ e) hin hP
        (hJ _ _ _ _ _ (fun b o' np e _ => offI b (fun q => np (.inl q)) _ e) hJv)
        (kp_ext hk (fr _ (Nat.le_refl _)) offI) pvn
  rw [← hoc]
  exact codeAny_compStart_dict (loop _ rfl) (W.self 0 _ _ _ hst3 (loop _ rfl))
end
section
variable {w : World} {A : Around} {E : Value → Shared → Prop} {env : Env} {s : Shared}
/-- a dict comprehension as an expression -/
theorem dc {kx vx iter : Expr} {x : Str} {px : Pos} {scope : Scope} {pos : Pos} {cl : List (Str × Addr)} {Q : Value → Shared → Prop} {cmo : Str → Option Value}
    (J : (Addr → Prop) → Heap → List Value → List (Str × Value) → Prop)
    (hclos : closureFor scope env = pure cl) (hkind : scope.kind = .function) (hnames : ∀ y ∈ scope.names, y.2 = .local → scope.names.lookup y.1 = some .local)
    (hx : (scope.names.lookup x = some .local ∧ ∀ C : Addr, (cellsFrom (C + 1) scope.names []).lookup x = none) ∨ (scope.names.lookup x ≠ some .local) ∧ ∀ C : Addr, (cenvOf scope cl C env).kindOf x = some .cell ∧ ∃ c, (cellsFrom (C + 1) scope.names []).lookup x = some c)
    (hJ : ∀ pv h h' vs ys, (∀ b o, ¬ pv b → h.get? b = some o → o.cls ≠ .type "frame" → h'.get? b = some o) → J pv h vs ys → J pv h' vs ys) (hJ0 : ∀ pv h, J pv h [] [])
    (h : wpAny (model PW w) A (eval iter env) (fun xv s₁ => ∃ old n P, Src w A xv s₁ old n P ∧ n ≤ sizeLine ∧ (∀ n c, cl.lookup n = some c → s₁.heap.IsCell c (cmo n)) ∧ TurnD w A env scope cl cmo x kx vx n P J s₁ ∧
      (∀ D h' t' (ys : List (Str × Value)) (vs : List Value) pv, s₁.heap.objs.size < D → s₁.heap.get? D = none → Kp s₁.heap h' → DK w h' D ys → vs.length = n → (∀ j v, vs[j]? = some v → P j v) → J pv h' vs ys → pv D → (∀ b, pv b → s₁.heap.get? b = none) →
        Q (.ref D) { s₁ with heap := h', toks := t' })) E s)
    (hs : ∀ x, foldedSetIterable iter env x = pure x := by intro _; rfl) :
    wpAny (model PW w) A (eval (.DictComp kx vx [⟨.Name x px, iter, [], 0⟩] scope pos) env) Q E s := by
  rw [arm_eval_DictComp]
  show wpAny _ A (comprehension (.DictComp kx vx [⟨.Name x px, iter, [], 0⟩] scope pos) scope env _ newDict false (eval iter env) none) _ _ s
  refine wpAny_comprehension_free (use := none) rfl hs hclos hkind hnames (wpAny_mono h (fun xv s₁ h₁ => ?_) fun _ _ e => e)
  obtain ⟨old, n, P, S, hsz, hcl, turn, hQ⟩ := h₁
  refine S.it _ _ fun o St W hst hof hlive => ?_
  refine comp_coreD (RR := fun acc C => compPost (model PW w) A E none Q acc C) W hst hof hlive S.old hsz hkind hx hcl hJ hJ0 turn ?_
  intro D C h' tk m' ys vs pv hI hD hC hDC pD pC hn hl hlen hP hJv hk hpv
  exact ⟨m', hn, fun h'' hs'' => hQ D h'' tk ys vs pv hI hD (kp_sb hk hs'' hC) (Heap.DictOf.extBut hl hs''.extBut hDC) hlen hP (hJ _ _ _ _ _ (fun b o np e _ => hs''.extBut b o (fun q => np (q ▸ pC)) e) hJv) pD hpv⟩

end
end

section
open PySem PySem.W PySem.Calls PyProof.Rows PyProof.V
variable [Lo]
omit [Lo] in
/-- _law_needs -/
def optsOf (wd : List Nat) (k : Int) : List (Option Nat) := (if k = 0 then [] else [none]) ++ wd.map some ++ (if k = 1 then [] else [none])
omit [Lo] in
theorem patS_opts (wd : List Nat) (k : Int) : patS wd k = (optsOf wd k).flatMap tokT := by
  have e : (wd.map some).flatMap tokT = wd.flatMap sgn := by rw [List.flatMap_map]; rfl
  unfold patS optsOf
  rw [List.flatMap_append, List.flatMap_append, e]
  split <;> split <;> rfl
omit [Lo] in
theorem partsOf_opts (wd : List Nat) (k : Int) : partsOf wd k = (optsOf wd k).map (Option.map tx) := by
  unfold partsOf optsOf
  rw [List.map_append, List.map_append, List.map_map, List.map_map]
  split <;> split <;> rfl
omit [Lo] in
theorem opts_sg {wd : List Nat} {k : Int} (h : ∀ c ∈ wd, c = 97 ∨ c = 42 ∨ c = 91) : ∀ c, some c ∈ optsOf wd k → c = 97 ∨ c = 42 ∨ c = 91 := by
  intro c hc
  unfold optsOf at hc
  rw [List.mem_append, List.mem_append] at hc
  rcases hc with (hc | hc) | hc
  · split at hc <;> simp at hc
  · exact h c (by simpa using hc)
  · split at hc <;> simp at hc
omit [Lo] in
theorem opts_len (wd : List Nat) (k : Int) : (optsOf wd k).length ≤ wd.length + 2 := by
  unfold optsOf
  rw [List.length_append, List.length_append, List.length_map]
  split <;> split <;> simp <;> (first | lia | omega)
omit [Lo] in
theorem opts_ss {wd : List Nat} {k : Int} (hw : wd ≠ []) : NoSS (optsOf wd k) := by
  intro i hi hj
  obtain ⟨c, r, rfl⟩ := List.exists_cons_of_ne_nil hw
  unfold optsOf at hi hj
  have mid : ∀ (a b : List (Option Nat)) (n : Nat), a.length ≤ n → n < a.length + (c :: r).length → (a ++ (c :: r).map some ++ b)[n]? ≠ some none := by
    intro a b n h1 h2 e
    rw [List.append_assoc, List.getElem?_append_right h1, List.getElem?_append_left (by rw [List.length_map]; (first | lia | omega)), List.getElem?_map] at e
    cases hq : (c :: r)[n - a.length]? with
    | none => rw [hq] at e; cases e
    | some z => rw [hq] at e; cases e
  have big : ∀ (l : List (Option Nat)) (n : Nat), l.length ≤ n → l[n]? ≠ some none := fun l n h e => by rw [List.getElem?_eq_none h] at e; cases e
  have l1 : (c :: r).length = r.length + 1 := rfl
  by_cases h0 : k = 0
  · rw [if_pos h0, if_neg (by (first | lia | omega))] at hi hj
    rcases Nat.lt_or_ge i (r.length + 1) with z | z
    · exact mid [] [none] i (Nat.zero_le _) (by simpa using z) hi
    · exact big _ _ (by simp; (first | lia | omega)) hj
  · rw [if_neg h0] at hi hj
    rcases Nat.lt_or_ge i 1 with z | z
    · have : i = 0 := by (first | lia | omega)
      subst this
      exact mid [none] _ 1 (Nat.le_refl _) (by simp) hj
    · rcases Nat.lt_or_ge i (r.length + 2) with z2 | z2
      · exact mid [none] _ i z (by simp; (first | lia | omega)) hi
      · split at hj
        · exact big _ _ (by simp; (first | lia | omega)) hj
        · exact big _ _ (by simp; (first | lia | omega)) hj
theorem Bd.wo {h₀ : Heap} {env : Env} {m cm : Str → Option Value} {h : Heap} (X : Bd h₀ env m cm h) (T : Tab h) (n : h₀.get? 101 = Option.none) : Bd h₀ env m cm (Mine.wo [101] h) := by
  obtain ⟨ps, eT, _⟩ := T
  have hL : env.locals ≠ 101 := fun q => by obtain ⟨o', e', c⟩ := X.fc; rw [q, eT] at e'; cases e'; cases c
  have hC : ∀ n c, (n, c) ∈ env.cells → c ≠ 101 := fun n c hm q => by obtain ⟨o', e', c'⟩ := X.cc n c hm; rw [q, eT] at e'; cases e'; cases c'
  have g : ∀ b, b ≠ 101 → (Mine.wo [101] h).get? b = h.get? b := fun b hb => wo_get (by simpa using hb)
  exact ⟨⟨X.ev.ns.at' fun o e => (g _ hL).trans e, fun n c hc => by obtain ⟨o, e1, d⟩ := X.ev.cell n c hc; exact ⟨o, (g _ (hC n c (mem_of_lookup hc))).trans e1, d⟩⟩, let ⟨o', e', c⟩ := X.fc; ⟨o', (g _ hL).trans e', c⟩, X.apart,
    fun n c hm => let ⟨o', e', c'⟩ := X.cc n c hm; ⟨o', (g _ (hC n c hm)).trans e', c'⟩, kp_wo X.keep (fun z hz => by rw [List.mem_singleton.mp hz]; exact n), X.nl, X.nc, X.lo⟩
omit [Lo] in
/-- a list of parts -/
def LP (st : Addr) (pv : Addr → Prop) (h : Heap) : Value → List (Option (List Nat)) → Prop := fun v x => ∃ a, ∃ us : List Value, v = .ref a ∧ ¬ pv a ∧ h.PlainList a us.toArray ∧ PV st us x
omit [Lo] in
theorem LP.keep {st : Addr} {pv pv' : Addr → Prop} {h h' : Heap} {vs : List Value} {xs : List (List (Option (List Nat)))} (x : Paired (LP st pv h) vs xs) (hp : ∀ a, ¬ pv a → ¬ pv' a) (k : ∀ b o, ¬ pv b → h.get? b = some o → o.cls = .type "list" → h'.get? b = some o) : Paired (LP st pv' h') vs xs := by
  induction x with
  | nil => exact .nil
  | cons q _ ih =>
    obtain ⟨a, us, e, np, ⟨n, g⟩, p⟩ := q
    exact .cons ⟨a, us, e, hp a np, ⟨n, k _ _ np g rfl⟩, p⟩ ih
omit [Lo] in
def nd (ws : List (List Nat)) (k : Int) (word : List Nat) : List (List Nat) := (ws.filter fun v => fitsOf (optsOf v k) word).filter fun y => !decide (y ∈ [word])
omit [Lo] in
def dd (ws : List (List Nat)) : List (List Nat) := ws.foldl (fun acc l => if l ∈ acc then acc else acc ++ [l]) []
omit [Lo] in
/-- a dict from words to lists of words -/
def NV (pv : Addr → Prop) (h : Heap) (f : List Nat → List (List Nat)) : List (Str × Value) → List (List Nat) → Prop := Paired fun kv l => kv.1 = S l ∧ ∃ a, kv.2 = .ref a ∧ ¬ pv a ∧ WL h a (f l)
omit [Lo] in
theorem NV.keep {pv pv' : Addr → Prop} {h h' : Heap} {f : List Nat → List (List Nat)} {kvs : List (Str × Value)} {ls : List (List Nat)} (x : NV pv h f kvs ls) (hp : ∀ a, ¬ pv a → ¬ pv' a) (k : ∀ b o, ¬ pv b → h.get? b = some o → o.cls = .type "list" → h'.get? b = some o) : NV pv' h' f kvs ls := by
  induction x with
  | nil => exact .nil
  | cons q _ ih =>
    obtain ⟨e1, a, e2, np, vs, ⟨n, g⟩, p⟩ := q
    exact .cons ⟨e1, a, e2, hp a np, vs, ⟨n, k _ _ np g rfl⟩, p⟩ ih
omit [Lo] in
theorem NV.any {pv : Addr → Prop} {h : Heap} {f : List Nat → List (List Nat)} {kvs : List (Str × Value)} {ls : List (List Nat)} {l : List Nat} (x : NV pv h f kvs ls) : (kvs.any fun kv => decide (kv.1 = S l)) = decide (l ∈ ls) := by
  induction x with
  | nil => rfl
  | @cons a b r r' q _ ih =>
    rw [List.any_cons, ih, q.1]
    by_cases e : b = l
    · subst e; simp
    · have h1 : ¬ S b = S l := fun q => e (S_inj q)
      have h2 : ¬ l = b := fun q => e q.symm
      simp [h1, h2]
omit [Lo] in
theorem NV.stored {pv : Addr → Prop} {h : Heap} {f : List Nat → List (List Nat)} {kvs : List (Str × Value)} {ls : List (List Nat)} {l : List Nat} {a : Addr} (x : NV pv h f kvs ls) (np : ¬ pv a) (w : WL h a (f l)) :
    NV pv h f (PySem.stored kvs (S l) (.ref a)) (if l ∈ ls then ls else ls ++ [l]) := by
  have hany := x.any (l := l)
  unfold PySem.stored
  by_cases hm : l ∈ ls
  · rw [if_pos (by rw [hany]; simpa using hm), if_pos hm]
    clear hany hm
    induction x with
    | nil => exact .nil
    | @cons kv b r r' q _ ih =>
      refine .cons ?_ ih
      by_cases e : kv.1 = S l
      · dsimp only; rw [if_pos e]
        have : b = l := S_inj (q.1.symm.trans e)
        subst this
        exact ⟨q.1, a, rfl, np, w⟩
      · dsimp only; rw [if_neg e]; exact q
  · rw [if_neg (by rw [hany]; simpa using hm), if_neg hm]
    exact Paired.snoc x ⟨rfl, a, rfl, np, w⟩
section
open SeqAt
variable {A : Around} {s : Shared}
omit [Lo] in
theorem part_eq {st : Addr} {sv : List Value} {v v' : Value} {x x' : Option (List Nat)} (hst : s.heap.PlainList st sv.toArray) (hu : A.units < cLine)
    (h : match x with | none => v = .ref st | some l => ∃ t, v = .str (S l) t) (h' : match x' with | none => v' = .ref st | some l => ∃ t, v' = .str (S l) t) : EqAt A s v v' (decide (x = x')) := by
  cases x with
  | none =>
    have h : v = .ref st := h
    subst h
    cases x' with
    | none => have h' : v' = .ref st := h'; subst h'; exact EqAt.same _
    | some l => obtain ⟨t, rfl⟩ := (h' : ∃ t, v' = .str (S l) t); exact EqAt.list_str _ _ hst.isList hu
  | some l =>
    obtain ⟨t, rfl⟩ := (h : ∃ t, v = .str (S l) t)
    cases x' with
    | none => have h' : v' = .ref st := h'; subst h'; exact EqAt.str_list _ _ hst.isList hu
    | some l' =>
      have e : decide (some l = some l') = decide (l = l') := by simp
      rw [e]; exact eqAt_str ⟨t, rfl⟩ h'
omit [Lo] in
theorem lp_eq {st : Addr} {sv : List Value} {pv pv' : Addr → Prop} {v v' : Value} {x x' : List (Option (List Nat))} (hst : s.heap.PlainList st sv.toArray) (hu : A.units + 3 < cLine) (h : LP st pv s.heap v x) (h' : LP st pv' s.heap v' x') : EqAt A s v v' (decide (x = x')) := by
  obtain ⟨a, us, rfl, _, p, q⟩ := h
  obtain ⟨b, us', rfl, _, p', q'⟩ := h'
  refine eqAt_refs (rc_lists (fun v y v' y' _ _ hy hy' => part_eq hst (by show A.units + 1 < cLine; (first | lia | omega)) hy hy') p p' q q' (by (first | lia | omega))).1 fun e => ?_
  subst e
  obtain ⟨n, e1⟩ := p
  obtain ⟨n', e2⟩ := p'
  rw [e1] at e2
  have : us = us' := by
    have := congrArg (fun o => o.map (·.data)) e2
    simp at this; exact this.1
  subst this
  have hxx : x = x' := by
    clear e1 e2
    induction q generalizing x' with
    | nil => cases q'; rfl
    | @cons v y r r' hy _ ih =>
      cases q' with
      | @cons _ y' _ r'' hy' hr' =>
        rw [ih hr']
        congr 1
        cases y with
        | none =>
          have hy : v = .ref st := hy
          cases y' with
          | none => rfl
          | some l' => obtain ⟨t, e⟩ := (hy' : ∃ t, v = .str (S l') t); rw [hy] at e; cases e
        | some l =>
          obtain ⟨t, e⟩ := (hy : ∃ t, v = .str (S l) t)
          cases y' with
          | none => have hy' : v = .ref st := hy'; rw [hy'] at e; cases e
          | some l' =>
            obtain ⟨t', e'⟩ := (hy' : ∃ t, v = .str (S l') t)
            rw [e] at e'
            injection e' with e1 _
            rw [S_inj e1]
  simp [hxx]
end
end

section
open PySem PySem.W PySem.Calls PyProof.Rows PyProof.V
variable [Lo]
omit [Lo] in
noncomputable def f251 (w : World) : Fn w 251 := ⟨_, _, _, _, rfl⟩
omit [Lo] in
structure WOk (ws : List (List Nat)) : Prop where
  len : ws.length ≤ 20
  each : ∀ wd ∈ ws, wd ≠ [] ∧ wd.length ≤ 3 ∧ ∀ c ∈ wd, c = 97 ∨ c = 42 ∨ c = 91
set_option maxHeartbeats 4000000 in
theorem c_needs {w : World} {A : Around} {E : Value → Shared → Prop} {s : Shared} {Q : Value → Shared → Prop} {d : Nat} {h₀ : Heap} (C : Cx w h₀) (R : Rm A (d + 9) h₀) (k : Kp h₀ s.heap) (n101 : h₀.get? 101 = none) (T : Tab s.heap)
    {wl : Addr} {u : Tok} {kd : Int} {vs : List Value} {ws : List (List Nat)} (hk0 : 0 ≤ kd) (hk3 : kd < 3) (hl : h₀.PlainList wl vs.toArray) (hv : SV vs ws) (ok : WOk ws)
    (h : ∀ D (kvs : List (Str × Value)) h' t', Kp h₀ h' → h₀.get? D = none → Tab h' → DK w h' D kvs → NV (fun _ => False) h' (nd ws kd) kvs (dd ws) → (D == sysModules) = false → Q (.ref D) { s with heap := h', toks := t' }) :
    wpAny (model PW w) A (call (.ref 251) [.ref wl, .int kd u]) Q E s := by
  refine' callK (f251 w) (d := d + 8) [("words", .ref wl), ("kind", .int kd u)] (fun _ => none) (upd (upd (fun _ => none) "words" (.ref wl)) "kind" (.int kd u)) (C.up k) (R.kp k) ?h2 ?h3 ?h4 ?h5 ?h6 ?h7 ?h8 ?h9 ?h10 ?h11 ?_
  case h2 => rfl
  case h3 => rfl
  case h4 => rfl
  case h5 => rfl
  case h6 => rfl
  case h7 => rfl
  case h8 => rfl
  case h9 => intro _; rfl
  case h10 => intro _; rfl
  case h11 => rfl
  intro L h₁ t₁ E' X R' C'
  refine cutQ fun P₀ hP₀ => ?_
  have X0 := X.base k
  have T1 := T.kp X.keep
  have hvl : vs.length = ws.length := hv.length
  ktr_unf
  refine new_list (fun st h2 _ k2 nst p2 => ?_) (by rw [sizeLine_is]; exact Nat.le_of_ble_eq_true rfl)
  refine st_cell (X0.kp k2) fun h3 X3 k3 => ?_
  have T3 := (T1.kp k2).ko k3
  have pst := pl_ko p2 k3
  have nst0 : h₀.get? st = none := X0.keep.none nst
  ktr_unf
  have hl3 := pl_kp hl X3.keep
  refine lcT (cl := [("star", L + 3), ("kind", L + 2)]) (cmo := upd (upd (upd (fun _ => none) "words" (.ref wl)) "kind" (.int kd u)) "star" (.ref st))
    (fun pv h vs ys => Paired (LP st pv h) ys ((ws.take vs.length).map fun wd => (optsOf wd kd).map (Option.map tx))) (by rfl) (by rfl) (by decide) (.inl ⟨by rfl, fun _ => by rfl⟩)
    (fun pv h h' vs ys kp x => LP.keep x (fun _ z => z) fun b o np e c => kp b o np e (kc c)) (fun _ _ => .nil) ?_
  refine nm_cell X3.ev (by rfl) ?_
  refine ⟨_, _, _, src_list (X3.rm R).hd hl3, T3, ?_, ?_, X3.ev.cells ⟨rfl, rfl, trivial⟩, ?_, ?_⟩
  · intro q
    rw [List.mem_singleton] at q
    obtain ⟨n, e⟩ := hl; rw [← q, n101] at e; cases e
  · rw [sizeLine_is, hvl]; have := ok.len; (first | lia | omega)
  · intro Cc pv vs' ys v s₃ m cm E'' hlt hP _ hJ hk hT4 hlive hpvn X4 hm _ hcm
    refine wpAny_tests_nil ⟨_, _, rfl, Kp.of (fun b o e => (wo_in e).2), hT4, ?_⟩
    first | refine pif_t rfl ?_ | refine wif_t rfl ?_ | rw [if_pos rfl]
    refine cutQ fun P₀ hP₀ => ?_
    have hm := hm (by rfl)
    obtain ⟨wd, tw, hwd, rfl⟩ := hv.get hP
    have hmem : wd ∈ ws := List.mem_of_getElem? hwd
    obtain ⟨hne, hw3, hsg⟩ := ok.each wd hmem
    have Xw := (X3.wo T3 n101).kp hk
    have C4 := Xw.cx C
    have R4 := Xw.rm R
    ktr_unf
    refine nm_glob (v := .ref 106) C4 (by rfl) ?_
    refine callWith_K C4.k (by rfl) ?_
    ktr_unf
    refine nm_glob (v := .ref 236) C4 (by rfl) ?_
    refine callWith_K C4.k (by rfl) ?_
    ktr_unf
    refine nm_loc X4 hm ?_
    ktr_unf
    refine nm_cell X4 (by rw [hcm _ (by rfl)]; rfl) ?_
    ktr_unf
    refine ⟨C4.k, ?_⟩
    refine c_pattern (d := d + 6) C4 R4 hk0 hk3 hw3 fun h5 t5 tk5 k5 => ?_
    have X5 := Xw.kp k5
    ktr_unf
    refine nm_cell (X4.kp k5) (by rw [hcm _ (by rfl)]; rfl) ?_
    ktr_unf
    refine ⟨(X5.cx C).k, ?_⟩
    rw [patS_opts, show Str.ofString "." = S [46] by decide +kernel]
    have kw5 : Kp h₀ (wo [101] s₃.heap) := kp_wo Xw.keep fun z hz => by rw [List.mem_singleton.mp hz]; exact n101
    have Xw' := Xw.wo hT4 n101
    refine c_translate (d := d + 5) (h₀ := wo [101] s₃.heap) (C.up kw5) (Xw'.rm R) (wo_kp.trans k5) (wo_none (by simp)) (hT4.kp k5) (opts_sg hsg) (opts_ss hne) (by have := opts_len wd kd; (first | lia | omega)) fun a us h6 t6 k6 na T6 p6 pv6 => ?_
    have na3 : ∀ b, pv b → b ≠ a := fun b hb q => by
      obtain ⟨o, e⟩ := hlive b hb
      have hb101 : b ≠ 101 := fun q => by
        have := hpvn b hb
        obtain ⟨ps, e', _⟩ := T3
        rw [q, show h3.get? 101 = some _ from e'] at this; cases this
      rw [← q, wo_get (by simpa using hb101), e] at na; cases na
    ktr_unf
    refine ⟨h6, t6, rfl, k6, T6, ?_⟩
    rw [List.length_append, List.length_singleton, take_snoc hwd, List.map_append]
    have hJ' := LP.keep (h' := h6) hJ (fun _ z => z) fun b o np e c => k6.off b o ((wo_get (by
      simp only [List.mem_singleton]; rintro rfl; obtain ⟨ps, e', _⟩ := hT4; rw [e'] at e; cases e; cases c)).trans e) (kc c)
    exact Paired.snoc hJ' ⟨a, us, rfl, fun hb => na3 a hb rfl, p6, pv6⟩
  · intro D h4 t4 ys vs' pv hD hk hT4 hlD hlen hP hJ pD hpv
    rw [hlen, hvl, List.take_length] at hJ
    have X4 := (X3.wo T3 n101).kp hk
    have nD0 : h₀.get? D = none := X3.keep.none hD
    refine st_cell X4 fun h5 X5 k5 => ?_
    have T5 := hT4.ko k5
    have hl5 := pl_kp hl X5.keep
    ktr_unf
    refine nm_cell X5.ev (by rfl) ?_
    ktr_unf
    refine lc (cl := [("star", L + 3), ("kind", L + 2)]) (cmo := upd (upd (upd (upd (fun _ => none) "words" (.ref wl)) "kind" (.int kd u)) "star" (.ref st)) "rules" (.ref D))
      (fun pv h vs ys => Paired (LP st pv h) ys ((ws.take vs.length).map fun wd => (optsOf wd kd).map (Option.map tx))) (by rfl) (by rfl) (by decide) (.inl ⟨by rfl, fun _ => by rfl⟩)
      (fun pv h h' vs ys kp x => LP.keep x (fun _ z => z) fun b o np e c => kp b o np e (kc c)) (fun _ _ => .nil) ?_
    refine nm_cell X5.ev (by rfl) ?_
    refine ⟨_, _, _, src_list (X5.rm R).hd hl5, ?_, X5.ev.cells ⟨rfl, rfl, trivial⟩, ?_, ?_⟩
    · rw [sizeLine_is, hvl]; have := ok.len; (first | lia | omega)
    · intro Cc pv2 vs2 ys2 v s₃ m cm E'' hlt hP2 _ hJ2 hk2 hlive2 _ X6 hm _ hcm
      refine wpAny_tests_nil ⟨_, _, rfl, Kp.refl _, ?_⟩
      first | refine pif_t rfl ?_ | refine wif_t rfl ?_ | rw [if_pos rfl]
      refine cutQ fun P₀ hP₀ => ?_
      have hm := hm (by rfl)
      obtain ⟨wd, tw, hwd, rfl⟩ := hv.get hP2
      have hmem : wd ∈ ws := List.mem_of_getElem? hwd
      obtain ⟨hne, hw3, hsg⟩ := ok.each wd hmem
      have Xw := X5.kp hk2
      have C6 := Xw.cx C
      ktr_unf
      refine nm_glob (v := .ref 241) C6 (by rfl) ?_
      refine callWith_K C6.k (by rfl) ?_
      ktr_unf
      refine nm_loc X6 hm ?_
      ktr_unf
      refine nm_cell X6 (by rw [hcm _ (by rfl)]; rfl) ?_
      ktr_unf
      refine nm_cell X6 (by rw [hcm _ (by rfl)]; rfl) ?_
      ktr_unf
      refine ⟨C6.k, ?_⟩
      refine c_parts (d := d + 6) C6 (Xw.rm R) hk0 hk3 hw3 hsg fun a us h7 t7 k7 na p7 pv7 => ?_
      ktr_unf
      refine ⟨h7, t7, rfl, k7, ?_⟩
      rw [List.length_append, List.length_singleton, take_snoc hwd, List.map_append]
      have hJ' := LP.keep (h' := h7) hJ2 (fun _ z => z) fun b o np e c => k7.off b o e (kc c)
      rw [partsOf_opts] at pv7
      have nap : ¬ pv2 a := fun hb => by obtain ⟨o, e⟩ := hlive2 a hb; rw [e] at na; cases na
      exact Paired.snoc hJ' ⟨a, us, rfl, nap, p7, pv7⟩
    · intro D2 h6 t6 ys2 vs2 pv2 hD2 hk6 hlD2 hlen2 hP2 hJ2 pD2 _
      rw [hlen2, hvl, List.take_length] at hJ2
      have X6 := X5.kp hk6
      have T6 := T5.kp hk6
      have hJ1 := LP.keep (pv' := fun _ => False) (h' := h6) hJ (fun _ _ z => z) fun b o np e c => hk6.off b o (k5 b o e (kc c) (kc c)) (kc c)
      have hJ2' := LP.keep (pv' := fun _ => False) (h' := h6) hJ2 (fun _ _ z => z) fun b o np e c => e
      have plD := pl_kp (pl_ko hlD k5) hk6
      have hst6 : h6.PlainList st [Value.str (Str.ofString "a star of the law's own") t₁].toArray := by
        obtain ⟨n, e⟩ := pst
        have h101 : st ≠ 101 := fun q => by obtain ⟨ps, e', _⟩ := T3; rw [q, show h3.get? 101 = some _ from e'] at e; cases e
        exact pl_kp (pl_ko (⟨n, hk.off _ _ ((wo_get (by simpa using h101)).trans e) (cn _ _ (by decide))⟩ : h4.PlainList st _) k5) hk6
      have hu := (X6.rm R).un
      refine (rc_lists (F := LP st (fun _ => False) h6) (fun v x v' x' _ _ a b => lp_eq (s := { s with heap := h6, toks := t6 }) hst6 (by show _ + 1 + 3 < cLine; (first | lia | omega)) a b) plD hlD2 hJ1 hJ2' (by (first | lia | omega))).2 PW w _ _ ?_
      ktr_unf
      first | refine pif_f (by simp) ?_ | refine wif_f (by simp) ?_ | rw [if_neg (by simp)]
      ktr_unf
      have hl6 := pl_kp hl X6.keep
      refine dc (cl := [("words", L + 1), ("star", L + 3), ("rules", L + 4)]) (cmo := upd (upd (upd (upd (fun _ => none) "words" (.ref wl)) "kind" (.int kd u)) "star" (.ref st)) "rules" (.ref D))
        (fun pv h vs kvs => NV pv h (nd ws kd) kvs (dd (ws.take vs.length))) (by rfl) (by rfl) (by decide) (.inr ⟨by decide, fun _ => ⟨by rfl, _, by rfl⟩⟩)
        (fun pv h h' vs kvs kp x => x.keep (fun _ z => z) fun b o np e c => kp b o np e (kc c)) (fun _ _ => .nil) ?_
      refine nm_cell X6.ev (by rfl) ?_
      refine ⟨_, _, _, src_list (X6.rm R).hd hl6, ?_, X6.ev.cells ⟨rfl, rfl, rfl, trivial⟩, ?_, ?_⟩
      · rw [sizeLine_is, hvl]; have := ok.len; (first | lia | omega)
      · intro Cc pv3 vs3 kvs v s₃ m cm E'' hlt hP3 _ hJ3 hk7 hlive3 hpvn3 X7 _ hmw hcm
        refine cutQ fun P₀ hP₀ => ?_
        have hmw := hmw _ rfl
        obtain ⟨wd, tw, hwd, rfl⟩ := hv.get hP3
        have hmem : wd ∈ ws := List.mem_of_getElem? hwd
        obtain ⟨hne, hw3, hsg⟩ := ok.each wd hmem
        have Xw := X6.kp hk7
        have C7 := Xw.cx C
        refine nm_cell X7 hmw ?_
        ktr_unf
        refine ⟨_, _, _, _, rfl, rfl, Kp.refl _, ?_⟩
        ktr_unf
        refine nm_glob (v := .ref 82) C7 (by rfl) ?_
        refine callWith_K C7.k (by rfl) ?_
        ktr_unf
        refine lc (cl := [("words", L + 1), ("word", Cc + 1), ("star", L + 3), ("rules", L + 4)]) (cmo := cm)
          (fun pv h vs ys => SV ys ((ws.take vs.length).filter fun v => fitsOf (optsOf v kd) wd)) (by rfl) (by rfl) (by decide) (.inl ⟨by rfl, fun _ => by rfl⟩) (fun _ _ _ _ _ _ x => x) (fun _ _ => SV.nil) ?_
        ktr_unf
        refine nm_blt (v := .type "range") C7 (by rfl) rfl ?_
        ktr_unf
        refine nm_blt (v := .builtin "len") C7 (by rfl) rfl ?_
        ktr_unf
        have ewords : cm "words" = some (.ref wl) := by rw [hcm _ (by rfl)]; rfl
        have estar : cm "star" = some (.ref st) := by rw [hcm _ (by rfl)]; rfl
        have erules : cm "rules" = some (.ref D) := by rw [hcm _ (by rfl)]; rfl
        refine nm_cell X7 ewords ?_
        ktr_unf
        have hwl20 := ok.len
        refine len_L (pl_kp hl Xw.keep) (by (first | lia | omega)) ?_
        ktr_unf
        refine call_rng (Xw.rm R).hd (by (first | lia | omega)) (by (first | lia | omega)) fun ra h8 t8 k8 hS => ?_
        rw [show ((vs.length : Nat) : Int).toNat = vs.length by (first | lia | omega)] at hS
        refine ⟨_, _, _, hS, ?_, (X7.kp k8).cells ⟨rfl, rfl, rfl, rfl, trivial⟩, ?_, ?_⟩
        · rw [sizeLine_is]; (first | lia | omega)
        · intro Cd pv4 vs4 ys4 v4 s₅ m4 cm4 E4 hlt4 hP4 _ hJ4 hk9 _ _ X9 hm4 _ hcm4
          refine cutQ fun P₀ hP₀ => ?_
          have hm4 := hm4 (by rfl)
          obtain ⟨uk, rfl⟩ := hP4
          have kall : Kp h6 s₅.heap := (hk7.trans k8).trans hk9
          have Xw9 := X6.kp kall
          have C9 := Xw9.cx C
          have ewords4 : cm4 "words" = some (.ref wl) := by rw [hcm4 _ (by rfl)]; exact ewords
          have estar4 : cm4 "star" = some (.ref st) := by rw [hcm4 _ (by rfl)]; exact estar
          have erules4 : cm4 "rules" = some (.ref D) := by rw [hcm4 _ (by rfl)]; exact erules
          have eword4 : cm4 "word" = some (.str (S wd) tw) := by rw [hcm4 _ (by rfl)]; exact hmw
          obtain ⟨wk, hwk⟩ : ∃ wk, ws[vs4.length]? = some wk := ⟨ws[vs4.length]'(by (first | lia | omega)), List.getElem?_eq_getElem _⟩
          obtain ⟨tk, hvk⟩ := hv.at hwk
          have hkmem : wk ∈ ws := List.mem_of_getElem? hwk
          obtain ⟨hkne, hkw3, hksg⟩ := ok.each wk hkmem
          obtain ⟨rv, hrv, ra2, us, rfl, _, pus, pvus⟩ := Paired.at' hJ1 (i := vs4.length) (b := (optsOf wk kd).map (Option.map tx)) (by rw [List.getElem?_map, hwk]; rfl)
          refine wpAny_tests_one ?_
          refine isTrue_plain ?_
          ktr_unf
          refine nm_glob (v := .ref 246) C9 (by rfl) ?_
          refine callWith_K C9.k (by rfl) ?_
          ktr_unf
          refine nm_cell X9 erules4 ?_
          ktr_unf
          refine nm_loc X9 hm4 ?_
          refine sub_list (pl_kp plD kall) (by (first | lia | omega)) (by simpa using hrv) ?_ (by (first | lia | omega))
          ktr_unf
          refine nm_cell X9 estar4 ?_
          ktr_unf
          refine nm_cell X9 eword4 ?_
          ktr_unf
          refine ⟨C9.k, ?_⟩
          have hst9 : ∃ o, s₅.heap.get? st = some o := by obtain ⟨n, e⟩ := pl_kp hst6 kall; exact ⟨_, e⟩
          refine c_fits (d := d + 6) C9 (Xw9.rm R) hst9 hw3 (pl_kp pus kall) pvus (by have := opts_len wk kd; (first | lia | omega)) (opts_sg hksg) fun h10 t10 k10 => ?_
          ktr_unf
          have eT : (ws.take (vs4 ++ [Value.int (vs4.length : Int) uk]).length).filter (fun v => fitsOf (optsOf v kd) wd) = (ws.take vs4.length).filter (fun v => fitsOf (optsOf v kd) wd) ++ [wk].filter (fun v => fitsOf (optsOf v kd) wd) := by
            rw [List.length_append, List.length_singleton, take_snoc hwk, List.filter_append]
          refine ⟨_, _, rfl, k10, ?_⟩
          cases hf : fitsOf (optsOf wk kd) wd with
          | true =>
            first | refine pif_t rfl ?_ | refine wif_t rfl ?_ | rw [if_pos rfl]
            ktr_unf
            refine nm_cell (X9.kp k10) ewords4 ?_
            ktr_unf
            refine nm_loc (X9.kp k10) hm4 ?_
            refine sub_list (pl_kp hl (Xw9.kp k10).keep) (by (first | lia | omega)) (by simpa using hvk) ?_ (by (first | lia | omega))
            refine ⟨_, _, rfl, Kp.refl _, ?_⟩
            rw [eT]
            simpa [hf] using hJ4.snoc
          | false =>
            first | refine pif_f (by decide) ?_ | refine wif_f (by decide) ?_ | rw [if_neg (by decide)]
            rw [eT]
            simpa [hf] using hJ4
        · intro D4 h9 t9 ys4 vs4 pv4 hD4 hk9 hlD4 hlen4 hP4 hJ4 _ _
          rw [hlen4, hvl, List.take_length] at hJ4
          have kall : Kp h6 h9 := (hk7.trans k8).trans hk9
          have Xw9 := X6.kp kall
          ktr_unf
          refine nm_cell ((X7.kp k8).kp hk9) hmw ?_
          ktr_unf
          refine new_list (fun l10 h10 _ k10 n10 p10 => ?_) (by rw [sizeLine_is]; exact Nat.le_of_ble_eq_true rfl)
          have Xw10 := Xw9.kp k10
          have C10 := Xw10.cx C
          ktr_unf
          refine ⟨C10.k, ?_⟩
          refine c_filter (d := d + 2) C10 (Xw10.rm R) (by exact Nat.le_trans (List.length_filter_le _ _) (by (first | lia | omega))) (pl_kp hlD4 k10) hJ4 p10 (.cons ⟨tw, rfl⟩ .nil : SV [.str (S wd) tw] [wd]) fun h11 t11 a acc k11 na p11 sv11 => ?_
          have k711 : Kp s₃.heap h11 := ((k8.trans hk9).trans k10).trans k11
          have na3 : s₃.heap.get? a = none := ((k8.trans hk9).trans k10).none na
          have nap : ¬ pv3 a := fun hb => by obtain ⟨o, e⟩ := hlive3 a hb; rw [e] at na3; cases na3
          refine ⟨h11, t11, rfl, k711, ?_⟩
          have hw11 : WL h11 a (nd ws kd wd) := ⟨acc, p11, sv11⟩
          have hJ3' := hJ3.keep (h' := h11) (fun _ z => z) fun b o np e c => k711.off b o e (kc c)
          have := hJ3'.stored nap hw11
          rw [List.length_append, List.length_singleton, take_snoc hwd]
          unfold dd at this ⊢
          rw [List.foldl_append]
          exact this
      · intro D5 h8 t8 kvs vs5 pv5 hsz5 hD5 hk8 hdk hlen5 hP5 hJ5 _ _
        rw [hlen5, hvl, List.take_length] at hJ5
        have X8 := X6.kp hk8
        have h1 : 101 < h6.objs.size := let ⟨_, e, _⟩ := T6.live; by have := Heap.lt_size e; (first | lia | omega)
        ktr_unf
        refine h D5 kvs h8 t8 X8.keep (X6.keep.none hD5) (T6.kp hk8) hdk (hJ5.keep (fun _ _ z => z) fun b o np e c => e) (beq_eq_false_iff_ne.mpr (fun q => ?_))
        have : D5 = 1 := q
        have h2 : h6.objs.size < D5 := hsz5
        (first | lia | omega)
end

section
open PySem PySem.W PySem.Calls PyProof.Rows PyProof.V
variable [Lo]
omit [Lo] in
/-- _law_depth -/
def inf (wd o : List Nat) : Bool := !(Builtin.Str.occurrences (S wd) (S o) 0 (S wd).length 1).isEmpty
omit [Lo] in
def rel (kd : Int) (wd o : List Nat) : Bool := decide (o ≠ wd) && (if kd = 0 then decide (wd.take (clampI o.length wd.length) = o) else if kd = 1 then decide (wd.drop (clampI (-(o.length : Int)) wd.length) = o) else inf wd o)
omit [Lo] in
def dep (ws : List (List Nat)) (kd : Int) : Nat → List Nat → Nat
  | 0, _ => 0
  | n + 1, wd => ((ws.filter (rel kd wd)).map fun o => dep ws kd n o + 1).foldl max 0
theorem max_L {w : World} {A : Around} {E : Value → Shared → Prop} {s : Shared} {l : Addr} {vs : List Value} {ns : List Nat} {Q : Value → Shared → Prop} (hh : A.handled = none) (hl : s.heap.PlainList l vs.toArray) (hi : IV vs ns) (hne : ns ≠ [])
    (h : ∀ h' (M : Nat) t tk, Kp s.heap h' → M ∈ ns → (∀ a ∈ ns, a ≤ M) → Q (.int (M : Int) t) { s with heap := h', toks := tk }) : wpAny (model PW w) A (call (.builtin "max") [.ref l]) Q E s := by
  have hi' := hi.are
  obtain ⟨xs, e⟩ := hi'.allInts.items
  have hns : ns.map Int.ofNat = xs.toList.map (·.1) := by rw [← hi'.numsOf, ← nums_intItems, ← e]
  have hlen : ns.length = xs.size := by have := congrArg List.length hns; simpa using this
  have hsz : 0 < xs.size := by
    have : ns.length ≠ 0 := fun q => hne (List.length_eq_zero_iff.mp q)
    (first | lia | omega)
  have hl' := hl.isList
  rw [e] at hl'
  refine max_intList hh hl' hsz fun v h' tk hv hk => ?_
  obtain ⟨t, rfl⟩ := intItems_at hv
  obtain ⟨h1, h2⟩ := argBest_gt (numAt xs) (xs.size - 1)
  generalize hj : argBest (fun i j => decide (numAt xs i > numAt xs j)) (xs.size - 1) = j at *
  have hjlt : j < xs.size := by (first | lia | omega)
  have nat_at : ∀ i, i < xs.size → ∃ m, ns[i]? = some m ∧ numAt xs i = (m : Int) := by
    intro i hi
    have hi2 : i < ns.length := by (first | lia | omega)
    refine ⟨ns[i], List.getElem?_eq_getElem hi2, ?_⟩
    have e1 : (ns.map Int.ofNat)[i]? = some (Int.ofNat ns[i]) := by rw [List.getElem?_map, List.getElem?_eq_getElem hi2]; rfl
    rw [hns, List.getElem?_map] at e1
    unfold numAt
    rw [← Array.getElem?_toList, e1]; rfl
  obtain ⟨M, hM, eM⟩ := nat_at j hjlt
  rw [eM]
  refine h h' M t tk (Kp.of hk) (List.mem_of_getElem? hM) fun a ha => ?_
  obtain ⟨i, hi, rfl⟩ := List.getElem_of_mem ha
  obtain ⟨m, hm, em⟩ := nat_at i (by (first | lia | omega))
  have := h2 i (by (first | lia | omega))
  rw [em, eM] at this
  rw [List.getElem?_eq_getElem hi] at hm
  have : ns[i] = m := Option.some.inj hm
  (first | lia | omega)
end

section
open PySem PySem.W PySem.Calls PyProof.Rows PyProof.V
variable [Lo]
omit [Lo] in
theorem S_bne (a b : List Nat) : (S a != S b) = (a != b) := by unfold bne; rw [S_beq]
omit [Lo] in
theorem foldl_max (l : List Nat) : ∀ b, (∀ a ∈ l, a ≤ l.foldl max b) ∧ b ≤ l.foldl max b ∧ (l.foldl max b = b ∨ l.foldl max b ∈ l) := by
  induction l with
  | nil => intro b; exact ⟨fun a q => (nomatch q), Nat.le_refl _, .inl rfl⟩
  | cons x r ih =>
    intro b
    obtain ⟨i1, i2, i3⟩ := ih (max b x)
    refine ⟨fun a q => ?_, ?_, ?_⟩
    · rcases List.mem_cons.mp q with rfl | q
      · exact Nat.le_trans (Nat.le_max_right _ _) i2
      · exact i1 a q
    · exact Nat.le_trans (Nat.le_max_left _ _) i2
    · rcases i3 with e | e
      · have e' : (x :: r).foldl max b = max b x := e
        rw [e']
        rcases Nat.le_total b x with q | q
        · right; rw [Nat.max_eq_right q]; exact List.mem_cons_self
        · left; exact Nat.max_eq_left q
      · exact .inr (List.mem_cons_of_mem _ e)
omit [Lo] in
theorem max_is {l : List Nat} {M : Nat} (h : M ∈ l ++ [0]) (hm : ∀ a ∈ l ++ [0], a ≤ M) : M = l.foldl max 0 := by
  obtain ⟨i1, i2, i3⟩ := foldl_max l 0
  refine Nat.le_antisymm ?_ ?_
  · rcases List.mem_append.mp h with h | h
    · exact i1 _ h
    · rw [List.mem_singleton.mp h]; exact Nat.zero_le _
  · rcases i3 with e | e
    · rw [e]; exact Nat.zero_le _
    · exact hm _ (List.mem_append_left _ e)
omit [Lo] in
theorem rel_at {kd : Int} {wd o : List Nat} (hk0 : 0 ≤ kd) (hk3 : kd < 3) (how : o ≠ wd) : ([Value.bool (S (wd.take (clampI o.length wd.length)) == S o), Value.bool (S (wd.drop (clampI (-(o.length : Int)) wd.length)) == S o), Value.bool (!(Builtin.Str.occurrences (S wd) (S o) 0 (S wd).length 1).isEmpty)] : List Value)[kd.toNat]? = some (.bool (rel kd wd o)) := by
  have : kd = 0 ∨ kd = 1 ∨ kd = 2 := by (first | lia | omega)
  rw [S_beq, S_beq]
  rcases this with rfl | rfl | rfl
  · show some (Value.bool _) = _
    unfold rel
    rw [decide_eq_true (by exact how), if_pos rfl, Bool.true_and, Bool.beq_eq_decide_eq]
  · show some (Value.bool _) = _
    unfold rel
    rw [decide_eq_true (by exact how), if_neg (by decide), if_pos rfl, Bool.true_and, Bool.beq_eq_decide_eq]
  · show some (Value.bool _) = _
    unfold rel
    rw [decide_eq_true (by exact how), if_neg (by decide), if_neg (by decide), Bool.true_and]; rfl
omit [Lo] in
noncomputable def f268 (w : World) : Fn w 268 := ⟨_, _, _, _, rfl⟩
set_option maxHeartbeats 4000000 in
theorem c_depth {w : World} {ws : List (List Nat)} {wl : Addr} {kd : Int} {vs : List Value} (hk0 : 0 ≤ kd) (hk3 : kd < 3) (hv : SV vs ws) (ok : WOk ws) (HR : ∀ wd ∈ ws, ∀ o ∈ ws, rel kd wd o = true → o.length < wd.length) (d : Nat) :
    ∀ (n : Nat) {A : Around} {E : Value → Shared → Prop} {s : Shared} {Q : Value → Shared → Prop} {wd : List Nat} {t u : Tok}, Cx w s.heap → Rm A (d + n + 2) s.heap → s.heap.PlainList wl vs.toArray → wd ∈ ws → wd.length < n →
      (∀ h' t' tk, Kp s.heap h' → Q (.int (dep ws kd n wd : Int) tk) { s with heap := h', toks := t' }) → wpAny (model PW w) A (call (.ref 268) [.ref wl, .str (S wd) t, .int kd u]) Q E s := by
  intro n
  induction n with
  | zero => intro A E s Q wd t u _ _ _ _ h _; exact absurd h (Nat.not_lt_zero _)
  | succ n ih =>
  intro A E s Q wd t u C R hl hwd hlt h
  refine' callK (f268 w) (d := d + n + 2) [("words", .ref wl), ("word", .str (S wd) t), ("kind", .int kd u)] (fun _ => none) (upd (upd (upd (fun _ => none) "words" (.ref wl)) "word" (.str (S wd) t)) "kind" (.int kd u)) C R ?h2 ?h3 ?h4 ?h5 ?h6 ?h7 ?h8 ?h9 ?h10 ?h11 ?_
  case h2 => rfl
  case h3 => rfl
  case h4 => rfl
  case h5 => rfl
  case h6 => rfl
  case h7 => rfl
  case h8 => rfl
  case h9 => intro _; rfl
  case h10 => intro _; rfl
  case h11 => rfl
  intro L h₁ t₁ E' X R' C'
  refine cutQ fun P₀ hP₀ => ?_
  have hvl : vs.length = ws.length := hv.length
  have hw20 := ok.len
  obtain ⟨hne, hw3, hsg⟩ := ok.each wd hwd
  have hl1 := pl_kp hl X.keep
  have hu := R'.un
  ktr_unf
  refine lc_to (cl := [("word", L + 2), ("kind", L + 3)]) (cmo := upd (upd (upd (fun _ => none) "words" (.ref wl)) "word" (.str (S wd) t)) "kind" (.int kd u)) (h₀ := s.heap)
    (fun _ _ vs ys => SV ys ((ws.take vs.length).filter (rel kd wd))) (by rfl) (by rfl) (by rfl) (by decide) (.inl ⟨by rfl, fun _ => by rfl⟩) (fun _ _ _ _ _ _ x => x) (fun _ _ => SV.nil) (by rfl) (by rfl) ?_
  refine nm_cell X.ev (by rfl) ?_
  refine ⟨_, _, _, _, _, X, src_list R'.hd hl1, ?_, X.ev.cells ⟨rfl, rfl, trivial⟩, ?_, ?_⟩
  · rw [sizeLine_is, hvl]; (first | lia | omega)
  · intro Cc pv vs' ys v s₃ m cm E'' hlt' hP _ hJ hk _ _ X4 hm _ hcm
    refine cutQ fun P₀ hP₀ => ?_
    have hm := hm (by rfl)
    obtain ⟨o, to, ho, rfl⟩ := hv.get hP
    have homem : o ∈ ws := List.mem_of_getElem? ho
    obtain ⟨hone, how3, hosg⟩ := ok.each o homem
    have Xw := X.kp hk
    have C4 := Xw.cx C
    have eT : (ws.take (vs' ++ [Value.str (S o) to]).length).filter (rel kd wd) = (ws.take vs'.length).filter (rel kd wd) ++ [o].filter (rel kd wd) := by
      rw [List.length_append, List.length_singleton, take_snoc ho, List.filter_append]
    have ew : cm "word" = some (.str (S wd) t) := by rw [hcm _ (by rfl)]; rfl
    have ek : cm "kind" = some (.int kd u) := by rw [hcm _ (by rfl)]; rfl
    ktr_unf
    refine nm_loc X4 hm ?_
    ktr_unf
    refine nm_cell X4 ew ?_
    ktr_unf
    by_cases how : o = wd
    · first | refine pif_f (by rw [S_bne]; simpa using how) ?_ | refine wif_f (by rw [S_bne]; simpa using how) ?_ | rw [if_neg (by rw [S_bne]; simpa using how)]
      ktr_unf
      refine ⟨_, _, rfl, Kp.refl _, ?_⟩
      first | refine pif_f (by decide) ?_ | refine wif_f (by decide) ?_ | rw [if_neg (by decide)]
      rw [eT]
      have : rel kd wd o = false := by unfold rel; simp [how]
      simpa [this] using hJ
    · first | refine pif_t (by rw [S_bne]; simpa using how) ?_ | refine wif_t (by rw [S_bne]; simpa using how) ?_ | rw [if_pos (by rw [S_bne]; simpa using how)]
      ktr_unf
      refine isTrue_plain ?_
      ktr_unf
      refine nm_cell X4 ew ?_
      ktr_unf
      refine nm_blt (v := .builtin "len") C4 (by rfl) rfl ?_
      ktr_unf
      refine nm_loc X4 hm ?_
      ktr_unf
      refine len_S (l := o) (by (first | lia | omega)) ?_
      ktr_unf
      have kk7 := Kp.push s₃.heap { cls := .type "slice", data := .fields #[.none, .int (o.length : Int) (s₃.toks + 1), .none] }
      refine sl_ns (l := wd) (j := (o.length : Int)) ⟨_, Heap.get?_push_size _ rfl, rfl, rfl⟩ (fun t7 k7 => ?_) (by (first | lia | omega))
      ktr_unf
      refine nm_loc (X4.kp kk7) hm ?_
      ktr_unf
      refine nm_cell (X4.kp kk7) ew ?_
      ktr_unf
      refine nm_blt (v := .builtin "len") (C4.up kk7) (by rfl) rfl ?_
      ktr_unf
      refine nm_loc (X4.kp kk7) hm ?_
      ktr_unf
      refine len_S (l := o) (by (first | lia | omega)) ?_
      ktr_unf
      refine neg_int ?_
      ktr_unf
      refine sl_sn (l := wd) (i := -(o.length : Int)) ⟨_, Heap.get?_push_size _ rfl, rfl, rfl⟩ (fun t8 k8 => ?_) (by (first | lia | omega))
      refine nm_loc (X4.kp (kk7.trans (Kp.push _ _))) hm ?_
      ktr_unf
      refine nm_loc (X4.kp (kk7.trans (Kp.push _ _))) hm ?_
      ktr_unf
      refine nm_cell (X4.kp (kk7.trans (Kp.push _ _))) ew ?_
      refine P.in_str ?_
      ktr_unf
      refine new_list (fun l9 h9 _ k9 n9 p9 => ?_) (by rw [sizeLine_is]; exact Nat.le_of_ble_eq_true rfl)
      have kk9 := (kk7.trans (Kp.push _ _)).trans k9
      ktr_unf
      refine nm_cell (X4.kp kk9) ek ?_
      refine sub_list p9 hk0 (rel_at hk0 hk3 how) ?_ (by (first | lia | omega))
      cases hr : rel kd wd o with
      | true =>
        ktr_unf
        first | refine pif_t rfl ?_ | refine wif_t rfl ?_ | rw [if_pos rfl]
        ktr_unf
        refine ⟨_, _, rfl, kk9, ?_⟩
        first | refine pif_t rfl ?_ | refine wif_t rfl ?_ | rw [if_pos rfl]
        refine nm_loc (X4.kp kk9) hm ?_
        refine ⟨_, _, rfl, Kp.refl _, ?_⟩
        rw [eT]
        simpa [hr] using hJ.snoc
      | false =>
        ktr_unf
        first | refine pif_f (by decide) ?_ | refine wif_f (by decide) ?_ | rw [if_neg (by decide)]
        ktr_unf
        refine ⟨_, _, rfl, kk9, ?_⟩
        first | refine pif_f (by decide) ?_ | refine wif_f (by decide) ?_ | rw [if_neg (by decide)]
        rw [eT]
        simpa [hr] using hJ
  · intro D h4 t4 ys vs' pv nD X4 k4 plD hlen hP hJ _ _
    rw [hlen, hvl, List.take_length] at hJ
    have C4 := X4.cx C
    have hys : ys.length = (ws.filter (rel kd wd)).length := hJ.length
    have hys20 : ys.length ≤ 20 := by have := List.length_filter_le (rel kd wd) ws; (first | lia | omega)
    ktr_unf
    refine nm_blt (v := .builtin "max") C4 (by rfl) rfl ?_
    ktr_unf
    refine lc (cl := [("words", L + 1), ("kind", L + 3)]) (cmo := upd (upd (upd (fun _ => none) "words" (.ref wl)) "word" (.str (S wd) t)) "kind" (.int kd u))
      (fun _ _ vs ys => IV ys (((ws.filter (rel kd wd)).take vs.length).map fun o => dep ws kd n o + 1)) (by rfl) (by rfl) (by decide) (.inl ⟨by rfl, fun _ => by rfl⟩) (fun _ _ _ _ _ _ x => x) (fun _ _ => IV.nil) ?_
    refine nm_loc X4.ev (by rfl) ?_
    refine ⟨_, _, _, src_list (X4.rm R).hd plD, ?_, X4.ev.cells ⟨rfl, rfl, trivial⟩, ?_, ?_⟩
    · rw [sizeLine_is]; (first | lia | omega)
    · intro Cc pv vs2 ys2 v s₃ m cm E'' hlt' hP2 _ hJ2 hk2 _ _ X5 hm _ hcm
      refine wpAny_tests_nil ⟨_, _, rfl, Kp.refl _, ?_⟩
      first | refine pif_t rfl ?_ | refine wif_t rfl ?_ | rw [if_pos rfl]
      refine cutQ fun P₀ hP₀ => ?_
      have hm := hm (by rfl)
      obtain ⟨o, to, ho, rfl⟩ := hJ.get hP2
      have hof := List.mem_of_getElem? ho
      obtain ⟨homem, hrel⟩ := List.mem_filter.mp hof
      have hlo := HR wd hwd o homem hrel
      have Xw := X4.kp hk2
      have C5 := Xw.cx C
      ktr_unf
      refine nm_glob (v := .ref 268) C5 (by rfl) ?_
      refine callWith_K C5.k (by rfl) ?_
      ktr_unf
      refine nm_cell X5 (by rw [hcm _ (by rfl)]; rfl) ?_
      ktr_unf
      refine nm_loc X5 hm ?_
      ktr_unf
      refine nm_cell X5 (by rw [hcm _ (by rfl)]; rfl) ?_
      ktr_unf
      refine ⟨C5.k, ?_⟩
      refine ih C5 ((Xw.rm R).mono (by (first | lia | omega))) (pl_kp hl Xw.keep) homem (by (first | lia | omega)) fun h6 t6 tk6 k6 => ?_
      ktr_unf
      refine ⟨_, _, rfl, k6, ?_⟩
      rw [List.length_append, List.length_singleton, take_snoc ho, List.map_append]
      exact hJ2.snoc' (n := dep ws kd n o + 1) (by push_cast; rfl)
    · intro D2 h5 t5 ys2 vs2 pv2 nD2 k5 plD2 hlen2 hP2 hJ2 _ _
      rw [hlen2, hys, List.take_length] at hJ2
      have X5 := X4.kp k5
      ktr_unf
      refine new_list (fun l6 h6 _ k6 n6 p6 => ?_) (by rw [sizeLine_is]; exact Nat.le_of_ble_eq_true rfl)
      refine add_lst (pl_kp plD2 k6) p6 (fun a h7 k7 na p7 => ?_) (by have := Paired.len' hJ2; rw [List.length_map] at this; simp; (first | lia | omega))
      ktr_unf
      have Xw := (X5.kp k6).kp k7
      refine max_L (Xw.rm R).hd p7 (ns := ((ws.filter (rel kd wd)).map fun o => dep ws kd n o + 1) ++ [0]) (Mine.Paired.app hJ2 (IV.snoc (n := 0) IV.nil)) (by simp) fun h8 M t8 tk8 k8 hM hmax => ?_
      ktr_unf
      have hMe : M = dep ws kd (n + 1) wd := by
        show M = ((ws.filter (rel kd wd)).map fun o => dep ws kd n o + 1).foldl max 0
        exact max_is hM hmax
      rw [hMe]
      exact h _ _ _ (Xw.keep.trans k8)
end

section
open PySem PySem.W PySem.Calls PyProof.Rows PyProof.V
variable [Lo]
section
variable {w : World} {A : Around} {s : Shared}
omit [Lo] in
/-- over a dict's keys -/
theorem src_keys {d : Addr} {kvs : List (Str × Value)} (hh : A.handled = none) (hd : (d == sysModules) = false) (hm : DK w s.heap d kvs) : Src w A (.ref d) s [d] kvs.length (fun i v => ∃ k x, kvs[i]? = some (k, x) ∧ (strKind PW w).is k v = true) := by
  obtain ⟨ep, hm⟩ := hm.dictAt
  have hlt := hm.lt_size
  refine ⟨fun Q E h => ?_, fun b hb => ?_⟩
  · refine wpAny_pyIter_dict hd hm (h _ (fun i h => h.IsKeyIter s.heap.objs.size d i kvs.length ep ∧ h.DictAt (strKind PW w) d kvs ep) (Walks.dictKeys hh _ d (Nat.ne_of_lt hlt) kvs ep) ⟨⟨_, Heap.get?_push_size _ rfl, rfl, rfl⟩, hm.push _⟩ rfl ?_)
    rintro i h ⟨⟨o, e1, c, _⟩, _⟩
    exact ⟨o, e1, by rw [c]; decide, by rw [c]; decide⟩
  · rw [List.mem_singleton.mp hb]
    obtain ⟨o, es, e, c, _⟩ := hm
    exact ⟨_, e, by rw [c.1]; exact cn _ _ (by decide), by rw [c.1]; exact cn _ _ (by decide)⟩
omit [Lo] in
/-- over a dict's values -/
theorem src_vals {v d : Addr} {kvs : List (Str × Value)} (hh : A.handled = none) (hv : s.heap.IsValuesView v d) (hm : DK w s.heap d kvs) : Src w A (.ref v) s [d] kvs.length (fun i x => ∃ k, kvs[i]? = some (k, x)) := by
  obtain ⟨ep, hm⟩ := hm.dictAt
  have hlt := hm.lt_size
  refine ⟨fun Q E h => ?_, fun b hb => ?_⟩
  · refine wpAny_pyIter_values hv hm (h _ (fun i h => h.IsValIter s.heap.objs.size d i kvs.length ep ∧ h.DictAt (strKind PW w) d kvs ep) (Walks.dictValues hh _ d (Nat.ne_of_lt hlt) kvs ep) ⟨⟨_, Heap.get?_push_size _ rfl, rfl, rfl⟩, hm.push _⟩ rfl ?_)
    rintro i h ⟨⟨o, e1, c, _⟩, _⟩
    exact ⟨o, e1, by rw [c]; decide, by rw [c]; decide⟩
  · rw [List.mem_singleton.mp hb]
    obtain ⟨o, es, e, c, _⟩ := hm
    exact ⟨_, e, by rw [c.1]; exact cn _ _ (by decide), by rw [c.1]; exact cn _ _ (by decide)⟩
end
section
variable {w : World} {A : Around} {E : Value → Shared → Prop} {s : Shared}
omit [Lo] in
/-- an object with a dict of its own -/
structure IsT (h : Heap) (x dx C : Addr) (c : Nat) (m : Str → Option Value) : Prop where
  at_ : h.get? x = some { cls := .ref C, dict := some dx, data := .plain, slots := #[] }
  ne : dx ≠ x
  own : ∃ es n, h.get? dx = some (dictOf es n) ∧ es.length ≤ c ∧ es.any (·.refKey) = false ∧ ∀ name, getL name es = some (m name)
theorem IsT.kp {h h' : Heap} {x dx C : Addr} {c : Nat} {m : Str → Option Value} (i : IsT h x dx C c m) (k : Kp h h') : IsT h' x dx C c m :=
  ⟨k.off _ _ i.at_ (fun q => nomatch q), i.ne, let ⟨es, n, e, r⟩ := i.own; ⟨es, n, k.off _ _ e (cn _ _ (by decide)), r⟩⟩
omit [Lo] in
theorem IsT.ko {h h' : Heap} {x dx C : Addr} {c : Nat} {m : Str → Option Value} (i : IsT h x dx C c m) (k : Ko h h') : IsT h' x dx C c m :=
  ⟨k _ _ i.at_ (fun q => nomatch q) (fun q => nomatch q), i.ne, let ⟨es, n, e, r⟩ := i.own; ⟨es, n, k _ _ e (cn _ _ (by decide)) (cn _ _ (by decide)), r⟩⟩
omit [Lo] in
theorem IsT.but {h h' : Heap} {x dx C b : Addr} {c : Nat} {m : Str → Option Value} (i : IsT h x dx C c m) (k : Heap.SameBut b h h') (n1 : b ≠ x) (n2 : b ≠ dx) : IsT h' x dx C c m :=
  ⟨(k.2 _ (Ne.symm n1)).trans i.at_, i.ne, let ⟨es, n, e, r⟩ := i.own; ⟨es, n, (k.2 _ (Ne.symm n2)).trans e, r⟩⟩
omit [Lo] in
theorem isStr_str (a b : Str) (t : Tok) : (Value.str a t).isStr b = (a == b) := rfl
omit [Lo] in
theorem put_any {name : Str} {hsh : Int} {t : Tok} {v : Value} : ∀ {es : List DictEntry}, es.any (·.refKey) = false → (putL name hsh (.str name t) v es).any (·.refKey) = false
  | [], _ => rfl
  | e :: r, q => by
    rw [List.any_cons, Bool.or_eq_false_iff] at q
    unfold putL
    split
    · rw [List.any_cons, Bool.or_eq_false_iff]; exact ⟨q.1, q.2⟩
    · rw [List.any_cons, Bool.or_eq_false_iff]; exact ⟨q.1, put_any q.2⟩
omit [Lo] in
theorem put_len {name : Str} {hsh : Int} {t : Tok} {v : Value} : ∀ {es : List DictEntry}, (putL name hsh (.str name t) v es).length = if es.any (·.key.isStr name) then es.length else es.length + 1
  | [] => rfl
  | e :: r => by
    unfold putL
    rw [List.any_cons]
    cases q : e.key.isStr name with
    | true => simp
    | false =>
      have := put_len (name := name) (hsh := hsh) (t := t) (v := v) (es := r)
      simp only [Bool.false_eq_true, if_false, Bool.false_or, List.length_cons, this]
      split <;> rfl
omit [Lo] in
theorem isStr_inj {k : Value} {a b : Str} (h : k.isStr a = true) (h' : k.isStr b = true) : a = b := Value.isStr_inj _ _ _ h h'
omit [Lo] in
theorem find_put {name : Str} {hsh : Int} {t : Tok} {v : Value} (x : Str) : ∀ {es : List DictEntry}, ((putL name hsh (.str name t) v es).find? (·.key.isStr x)).map (·.val) = if x = name then some v else (es.find? (·.key.isStr x)).map (·.val)
  | [] => by
    unfold putL
    rw [List.find?_cons]
    show Option.map _ (match (name == x) with | true => _ | false => _) = _
    by_cases q : x = name
    · subst q; simp
    · have : (name == x) = false := by simpa using fun e => q e.symm
      rw [this, if_neg q]
  | e :: r => by
    unfold putL
    cases q : e.key.isStr name with
    | true =>
      rw [if_pos rfl, List.find?_cons, List.find?_cons]
      dsimp only
      by_cases z : x = name
      · subst z; rw [q, if_pos rfl]; rfl
      · have : e.key.isStr x = false := by
          cases y : e.key.isStr x with
          | false => rfl
          | true => exact absurd (isStr_inj y q) z
        rw [this, if_neg z]
    | false =>
      rw [if_neg (by decide), List.find?_cons, List.find?_cons]
      have ih := find_put (name := name) (hsh := hsh) (t := t) (v := v) x (es := r)
      cases y : e.key.isStr x with
      | false => exact ih
      | true =>
        have : x ≠ name := fun z => by subst z; rw [q] at y; cases y
        rw [if_neg this]
omit [Lo] in
theorem getL_of {es : List DictEntry} (q : es.any (·.refKey) = false) (x : Str) : getL x es = some ((es.find? (·.key.isStr x)).map (·.val)) := by
  unfold getL
  cases es.find? (·.key.isStr x) with
  | some e => rfl
  | none => dsimp only; rw [q]; rfl
omit [Lo] in
structure OwnOk (w : World) (C : Addr) (name : Str) : Prop where
  hs : findIn (KF w.params) (.ref C) "__setattr__" = some (some (.builtin "object.__setattr__"))
  hp : plainOver (KF w.params) C = true
  ht : takerIn (KF w.params) C name = some none
  hd : hasDictIn (KF w.params) C = true
  hga : findIn (KF w.params) (.ref C) "__getattribute__" = some (some (.builtin "object.__getattribute__"))
  hn : findIn (KF w.params) (.ref C) name = some none
theorem own_set {x dx C : Addr} {c : Nat} {m : Str → Option Value} {name : Str} {tk : Tok} {v : Value} {R : Result → Shared → Prop} (O : OwnOk w C name) (X : Cx w s.heap) (I : IsT s.heap x dx C c m) (hc : c ≤ 100)
    (h : ∀ h', IsT h' x dx C (if (m name).isSome then c else c + 1) (upd m name v) → Heap.SameBut dx s.heap h' → R (.ok (.ret .none)) { s with heap := h', toks := s.toks + 1 }) :
    codeAny (model PW w) A (.call (.builtin "object.__setattr__") ⟨[.ref x, .str name tk, v], []⟩) R s := by
  obtain ⟨ax, ne, es, n, eD, hl, hr, hg⟩ := I
  have I' : InstAt s.heap x { cls := .ref C, dict := some dx, data := .plain, slots := #[] } C (some (dictOf es n)) := ⟨ax, rfl, rfl, eD⟩
  refine osa_open X.k I' O.hp O.ht fun b => ?_
  obtain ⟨cd, hc', hd'⟩ := any_some O.hd
  refine wpAny_bind (wpAny_pure (wpAny_bind (wpAny_bind (wpAny_loadPart ax (wpAny_bind ((looks_clsIn X.k hc').here ?_))))))
  rw [hd']
  refine wpAny_pure (a := some dx) (wpAny_bind (wpAny_pure (wpAny_bind ?_)))
  unfold nsSet
  refine wpAny_bind (wpAny_bind (wpAny_askSetting (wpAny_pure (wpAny_bind (wpAny_mkText (wpAny_bind (wpAny_loadPart eD ?_)))))))
  have cc : aRefKeyMayBeTheName name es.toArray = false := by
    rw [aRefKeyMayBeTheName_at, ← Array.any_toList, ← Array.any_toList]
    show (_ && List.any es _) = _
    rw [hr, Bool.and_false]
  show wpAny _ _ (do if aRefKeyMayBeTheName name es.toArray = true then _ else _) _ _ _
  rw [cc]
  refine wpAny_updatePart eD ?_
  have eN : ((s.heap).update dx (Obj.putName name (PyData.keyHash w.params name) (.str name s.toks) v)).get? dx = some (dictOf (putL name (PyData.keyHash w.params name) (.str name s.toks) v es) (putN name es n)) := by
    have := Heap.get?_update_self (Obj.putName name (PyData.keyHash w.params name) (.str name s.toks) v) eD (by rw [putName_dict]; rfl)
    rw [putName_dict] at this
    exact this
  have ln := put_len (name := name) (hsh := PyData.keyHash w.params name) (t := s.toks) (v := v) (es := es)
  have hs : es.any (·.key.isStr name) = (m name).isSome := by
    have := hg name
    rw [getL_of hr, Option.some.injEq] at this
    rw [← this, Option.isSome_map, Bool.eq_iff_iff, List.find?_isSome, List.any_eq_true]
  refine wpAny_bind (wpAny_lookBehind eN (pastItsLine_dict (by rw [List.size_toArray, sizeLine_eq, ln]; split <;> (first | lia | omega))) ?_)
  refine wpAny_pure (h _ ⟨?_, ne, _, _, eN, ?_, put_any hr, fun x' => ?_⟩ (Heap.SameBut.update ..))
  · exact (Heap.get?_update_other _ _ ne).trans ax
  · rw [ln, hs]; split <;> (first | lia | omega)
  · rw [getL_of (put_any hr), find_put]
    have := hg x'
    rw [getL_of hr, Option.some.injEq] at this
    rw [this]
theorem own_store {x dx C : Addr} {c : Nat} {m : Str → Option Value} {name : Str} {v : Value} {Q : Unit → Shared → Prop} (O : OwnOk w C name) (X : Cx w s.heap) (I : IsT s.heap x dx C c m) (hc : c ≤ 100)
    (h : ∀ h', IsT h' x dx C (if (m name).isSome then c else c + 1) (upd m name v) → Heap.SameBut dx s.heap h' → Q () { s with heap := h', toks := s.toks + 1 + 1 }) : wpAny (model PW w) A (setAttr (.ref x) name v) Q E s := by
  obtain ⟨es, n, eD, _⟩ := I.own
  exact set_plain X.k (⟨I.at_, rfl, rfl, eD⟩ : InstAt s.heap x { cls := .ref C, dict := some dx, data := .plain, slots := #[] } C (some (dictOf es n))) O.hs (own_set (s := { s with toks := s.toks + 1 }) O X I hc h)
theorem own_get {x dx C : Addr} {c : Nat} {m : Str → Option Value} {name : Str} {v : Value} {ex : Bool} {Q : Value → Shared → Prop} (O : OwnOk w C name) (X : Cx w s.heap) (I : IsT s.heap x dx C c m) (hv : m name = some v) (hh : handedIn v = true)
    (h : Q v { s with toks := s.toks + 1 }) : wpAny (model PW w) A (getAttr (.ref x) name ex) Q E s := by
  obtain ⟨es, n, eD, _, _, hg⟩ := I.own
  refine get_value X.k (⟨I.at_, rfl, rfl, eD⟩ : InstAt s.heap x { cls := .ref C, dict := some dx, data := .plain, slots := #[] } C (some (dictOf es n))) O.hga (findObj_own O.hd O.hn rfl ?_) hh h
  rw [lookIn_dict, hg, hv]
omit [Lo] in
structure MethOk (w : World) (C : Addr) (name : Str) (f : Addr) : Prop where
  hga : findIn (KF w.params) (.ref C) "__getattribute__" = some (some (.builtin "object.__getattribute__"))
  hk : findIn (KF w.params) (.ref C) "__getattr__" = some none
  hf : findIn (KF w.params) (.ref C) name = some (some (.ref f))
  ht : typeIn (KF w.params) (.ref f) = some (.type "function")
theorem meth_T {x dx C f : Addr} {c : Nat} {m : Str → Option Value} {name : Str} {pl : Sem Bool} {Q : Value × List Value → Shared → Prop} (O : MethOk w C name f) (X : Cx w s.heap) (I : IsT s.heap x dx C c m) (hv : m name = none) (h : Q (.ref f, [.ref x]) s) :
    wpAny (model PW w) A (getMethod (.ref x) name pl) Q E s := by
  obtain ⟨es, n, eD, _, _, hg⟩ := I.own
  refine method_fn X.k (⟨I.at_, rfl, rfl, eD⟩ : InstAt s.heap x { cls := .ref C, dict := some dx, data := .plain, slots := #[] } C (some (dictOf es n))) O.hga O.hk O.hf O.ht ?_ h
  show (lookIn name (dictOf es n)).map _ = _
  rw [lookIn_dict, hg, hv]; rfl
omit [Lo] in
theorem o_n2i (w : World) : OwnOk w 222 "_node2info" := ⟨rfl, rfl, rfl, rfl, rfl, rfl⟩
omit [Lo] in
theorem o_rdy (w : World) : OwnOk w 222 "_ready_nodes" := ⟨rfl, rfl, rfl, rfl, rfl, rfl⟩
omit [Lo] in
theorem o_npo (w : World) : OwnOk w 222 "_npassedout" := ⟨rfl, rfl, rfl, rfl, rfl, rfl⟩
omit [Lo] in
theorem o_nfi (w : World) : OwnOk w 222 "_nfinished" := ⟨rfl, rfl, rfl, rfl, rfl, rfl⟩
omit [Lo] in
theorem m_gni (w : World) : MethOk w 222 "_get_nodeinfo" 165 := ⟨rfl, rfl, rfl, rfl⟩
omit [Lo] in
theorem m_add (w : World) : MethOk w 222 "add" 172 := ⟨rfl, rfl, rfl, rfl⟩
omit [Lo] in
theorem m_prep (w : World) : MethOk w 222 "prepare" 177 := ⟨rfl, rfl, rfl, rfl⟩
omit [Lo] in
theorem m_rdy (w : World) : MethOk w 222 "get_ready" 184 := ⟨rfl, rfl, rfl, rfl⟩
omit [Lo] in
theorem m_act (w : World) : MethOk w 222 "is_active" 191 := ⟨rfl, rfl, rfl, rfl⟩
omit [Lo] in
theorem m_done (w : World) : MethOk w 222 "done" 205 := ⟨rfl, rfl, rfl, rfl⟩
omit [Lo] in
theorem m_cyc (w : World) : MethOk w 222 "_find_cycle" 212 := ⟨rfl, rfl, rfl, rfl⟩
end
end

section
open PySem PySem.W PySem.Calls PyProof.Rows PyProof.V
variable [Lo]
section
variable {w : World} {A : Around} {E : Value → Shared → Prop} {s : Shared}
theorem set_at' {x dx C p i : Nat} {name : Str} {v : Value} {sl : Array (Option Value)} {Q : Unit → Shared → Prop} (O : SlotOk w C name p i) (X : Cx w s.heap) (e1 : s.heap.get? x = some { cls := .ref C, dict := some dx, data := .plain, slots := sl }) (e2 : s.heap.get? dx = some emptyDict)
    (h : ∀ h', h'.get? x = some { cls := .ref C, dict := some dx, data := .plain, slots := slotPut sl i v } → Heap.SameBut x s.heap h' → Q () { s with heap := h', toks := s.toks + 1 }) : wpAny (model PW w) A (setAttr (.ref x) name v) Q E s := by
  have I' : InstAt s.heap x { cls := .ref C, dict := some dx, data := .plain, slots := sl } C (some emptyDict) := ⟨e1, rfl, rfl, e2⟩
  refine set_plain X.k I' O.hs (osa_descr (s := { s with toks := s.toks + 1 }) KF.slot_mset X.k I' O.hp O.ht O.hT (slot_set' (s := { s with toks := s.toks + 1 }) X.k I' O.hsl O.hi ?_))
  exact h _ (Heap.get?_update_self _ e1 rfl) (Heap.SameBut.update ..)
end
omit [Lo] in
theorem s_node (w : World) : SlotOk w 125 "node" 126 0 := ⟨rfl, rfl, rfl, rfl, rfl, by decide, rfl, rfl, rfl⟩
omit [Lo] in
theorem s_np (w : World) : SlotOk w 125 "npredecessors" 127 1 := ⟨rfl, rfl, rfl, rfl, rfl, by decide, rfl, rfl, rfl⟩
omit [Lo] in
theorem s_succ (w : World) : SlotOk w 125 "successors" 128 2 := ⟨rfl, rfl, rfl, rfl, rfl, by decide, rfl, rfl, rfl⟩
omit [Lo] in
theorem put3 (a b c : Value) : slotPut (slotPut (slotPut #[] 0 a) 1 b) 2 c = #[some a, some b, some c] := by
  apply Array.ext'
  simp [slotPut, List.set]
omit [Lo] in
noncomputable def f121 (w : World) : Fn w 121 := ⟨_, _, _, _, rfl⟩
set_option maxHeartbeats 4000000 in
/-- _NodeInfo.__init__ -/
theorem c_ni_init {w : World} {A : Around} {E : Value → Shared → Prop} {s : Shared} {Q : Value → Shared → Prop} {d : Nat} {h₀ : Heap} (C : Cx w h₀) (R : Rm A (d + 1) h₀) (k : Kp h₀ s.heap) {x da : Addr} {v : Value} (hn : h₀.get? x = none)
    (e1 : s.heap.get? x = some { cls := .ref 125, dict := some da, data := .plain, slots := #[] }) (e2 : s.heap.get? da = some emptyDict) (hda : da ≠ x)
    (h : ∀ h' t' l tk, Kp h₀ h' → s.heap.get? l = none → h'.get? x = some { cls := .ref 125, dict := some da, data := .plain, slots := #[some v, some (.int 0 tk), some (.ref l)] } → h'.get? da = some emptyDict → h'.PlainList l (#[] : Array Value) → Q .none { s with heap := h', toks := t' }) :
    codeAny (model PW w) A (.call (.ref 121) ⟨[.ref x, v], []⟩) (Ends Q E) s := by
  refine' callC (f121 w) (d := d) [("self", .ref x), ("node", v)] (upd (upd (fun _ => none) "self" (.ref x)) "node" v) (fun _ => none) (C.up k) (R.kp k) ?h2 ?h3 ?h4 ?h5 ?h6 ?h7 ?h8 ?h9 ?h10 ?h11 ?_
  case h2 => rfl
  case h3 => rfl
  case h4 => rfl
  case h5 => rfl
  case h6 => rfl
  case h7 => rfl
  case h8 => rfl
  case h9 => intro _; rfl
  case h10 => intro _; rfl
  case h11 => rfl
  intro L h₁ t₁ X R' C'
  have X0 := X.base k
  ktr_unf
  refine plainObj_wpAny_Assign_Attribute ?_
  ktr_unf
  refine nm_loc X0.ev (by rfl) ?_
  refine nm_loc X0.ev (by rfl) ?_
  have I1 := X.keep.off _ _ e1 (fun q => nomatch q)
  have D1 := X.keep.off _ _ e2 (cn _ _ (by decide))
  refine set_at' (s_node w) C' I1 D1 fun h2 I2 s2 => ?_
  have X2 := X0.but s2 hn ⟨_, I1, (fun q => nomatch q), fun q => nomatch q⟩
  have D2 := s2.extBut _ _ hda D1
  ktr_unf
  refine plainObj_wpAny_Assign_Attribute ?_
  ktr_unf
  refine nm_loc X2.ev (by rfl) ?_
  refine set_at' (s_np w) (X2.cx C) I2 D2 fun h3 I3 s3 => ?_
  have X3 := X2.but s3 hn ⟨_, I2, (fun q => nomatch q), fun q => nomatch q⟩
  have D3 := s3.extBut _ _ hda D2
  ktr_unf
  refine plainObj_wpAny_Assign_Attribute ?_
  ktr_unf
  refine new_list (fun l h4 e4 k4 n4 p4 => ?_) (by rw [sizeLine_is]; exact Nat.le_of_ble_eq_true rfl)
  have X4 := X3.kp k4
  have I4 := k4.off _ _ I3 (fun q => nomatch q)
  have D4 := k4.off _ _ D3 (cn _ _ (by decide))
  ktr_unf
  refine nm_loc X4.ev (by rfl) ?_
  refine set_at' (s_succ w) (X4.cx C) I4 D4 fun h5 I5 s5 => ?_
  have X5 := X4.but s5 hn ⟨_, I4, (fun q => nomatch q), fun q => nomatch q⟩
  have D5 := s5.extBut _ _ hda D4
  ktr_unf
  have hlx : l ≠ x := fun q => by subst q; rw [n4] at I3; cases I3
  have n3 : s.heap.get? l = none := by
    refine X.keep.none ?_
    have : h2.get? l = none := by rw [← s3.2 _ hlx]; exact n4
    rw [← s2.2 _ hlx]; exact this
  rw [put3] at I5
  refine h _ _ l _ X5.keep n3 I5 D5 ?_
  obtain ⟨nn, e⟩ := p4
  exact ⟨nn, (s5.2 _ hlx).trans e⟩
end

section
open PySem PySem.W PySem.Calls PyProof.Rows PyProof.V
variable [Lo]
omit [Lo] in
/-- a node of the sorter's graph: its _NodeInfo, that one's dict, its list of successors; word, count, successors -/
structure Nd where
  a : Addr
  d : Addr
  u : Addr
  wd : List Nat
  np : Int
  sc : List (List Nat)
omit [Lo] in
structure NdOk (h : Heap) (n : Nd) : Prop where
  at_ : ∃ t tn, h.get? n.a = some { cls := .ref 125, dict := some n.d, data := .plain, slots := #[some (.str (S n.wd) t), some (.int n.np tn), some (.ref n.u)] }
  own : h.get? n.d = some emptyDict
  succ : WL h n.u n.sc
omit [Lo] in
theorem NdOk.inst {h : Heap} {n : Nd} (x : NdOk h n) : ∃ t tn, IsI h n.a 125 #[some (.str (S n.wd) t), some (.int n.np tn), some (.ref n.u)] := by
  obtain ⟨t, tn, e⟩ := x.at_
  refine ⟨t, tn, n.d, e, x.own, fun q => ?_⟩
  have := x.own
  rw [q, e] at this; cases this
omit [Lo] in
theorem NdOk.to {h h' : Heap} {n : Nd} (x : NdOk h n) (k : ∀ b o, b = n.a ∨ b = n.d ∨ b = n.u → o.cls ≠ .type "frame" → o.cls ≠ .type "cell" → h.get? b = some o → h'.get? b = some o) : NdOk h' n := by
  obtain ⟨t, tn, e⟩ := x.at_
  obtain ⟨vs, ⟨m, p⟩, q⟩ := x.succ
  exact ⟨⟨t, tn, k _ _ (.inl rfl) (fun q => nomatch q) (fun q => nomatch q) e⟩, k _ _ (.inr (.inl rfl)) (cn _ _ (by decide)) (cn _ _ (by decide)) x.own, vs, ⟨m, k _ _ (.inr (.inr rfl)) (cn _ _ (by decide)) (cn _ _ (by decide)) p⟩, q⟩
omit [Lo] in
/-- the sorter's graph -/
structure GS (w : World) (h₀ h : Heap) (x dx N : Addr) (c : Nat) (m : Str → Option Value) (g : List Nd) : Prop where
  T : IsT h x dx 222 c m
  D : DK w h N (g.map fun n => (S n.wd, Value.ref n.a))
  nd : ∀ n ∈ g, NdOk h n
  fa : (g.map Nd.a).Nodup
  fu : (g.map Nd.u).Nodup
  sN : N ≠ dx
  sy : (N == sysModules) = false
  sd : ∀ n ∈ g, n.d ≠ N ∧ n.d ≠ dx
  b1 : h₀.get? x = none
  b2 : h₀.get? dx = none
  b3 : h₀.get? N = none
  b4 : ∀ n ∈ g, h₀.get? n.a = none ∧ h₀.get? n.d = none ∧ h₀.get? n.u = none
omit [Lo] in
theorem DK.obj {w : World} {h : Heap} {d : Addr} {kvs : List (Str × Value)} (x : DK w h d kvs) : ∃ o, h.get? d = some o ∧ o.cls = .type "dict" := let ⟨o, es, ep, e, c, r⟩ := x; ⟨o, e, c.1⟩
omit [Lo] in
theorem GS.to {w : World} {h₀ h h' : Heap} {x dx N : Addr} {c : Nat} {m : Str → Option Value} {g : List Nd} (G : GS w h₀ h x dx N c m g) (k : ∀ b o, o.cls ≠ .type "frame" → o.cls ≠ .type "cell" → h.get? b = some o → h'.get? b = some o) : GS w h₀ h' x dx N c m g :=
  ⟨G.T.ko fun b o e n1 n2 => k b o n1 n2 e, dk_ko G.D fun b o e n1 n2 => k b o n1 n2 e, fun n hn => (G.nd n hn).to fun b o _ n1 n2 e => k b o n1 n2 e, G.fa, G.fu, G.sN, G.sy, G.sd, G.b1, G.b2, G.b3, G.b4⟩
theorem GS.kp {w : World} {h₀ h h' : Heap} {x dx N : Addr} {c : Nat} {m : Str → Option Value} {g : List Nd} (G : GS w h₀ h x dx N c m g) (k : Kp h h') : GS w h₀ h' x dx N c m g := G.to fun b o n1 _ e => k.off b o e n1
omit [Lo] in
theorem GS.ko {w : World} {h₀ h h' : Heap} {x dx N : Addr} {c : Nat} {m : Str → Option Value} {g : List Nd} (G : GS w h₀ h x dx N c m g) (k : Ko h h') : GS w h₀ h' x dx N c m g := G.to fun b o n1 n2 e => k b o e n1 n2
omit [Lo] in
/-- another base -/
theorem GS.base {w : World} {h₀ h₁ h : Heap} {x dx N : Addr} {c : Nat} {m : Str → Option Value} {g : List Nd} (G : GS w h₀ h x dx N c m g) (k : ∀ b, h₀.get? b = none → (b = x ∨ b = dx ∨ b = N ∨ ∃ n ∈ g, b = n.a ∨ b = n.d ∨ b = n.u) → h₁.get? b = none) : GS w h₁ h x dx N c m g :=
  ⟨G.T, G.D, G.nd, G.fa, G.fu, G.sN, G.sy, G.sd, k _ G.b1 (.inl rfl), k _ G.b2 (.inr (.inl rfl)), k _ G.b3 (.inr (.inr (.inl rfl))), fun n hn => ⟨k _ (G.b4 n hn).1 (.inr (.inr (.inr ⟨n, hn, .inl rfl⟩))), k _ (G.b4 n hn).2.1 (.inr (.inr (.inr ⟨n, hn, .inr (.inl rfl)⟩))), k _ (G.b4 n hn).2.2 (.inr (.inr (.inr ⟨n, hn, .inr (.inr rfl)⟩)))⟩⟩
omit [Lo] in
/-- a field of the sorter is stored -/
theorem GS.setT {w : World} {h₀ h h' : Heap} {x dx N : Addr} {c c' : Nat} {m m' : Str → Option Value} {g : List Nd} (G : GS w h₀ h x dx N c m g) (s : Heap.SameBut dx h h') (T' : IsT h' x dx 222 c' m') : GS w h₀ h' x dx N c' m' g := by
  obtain ⟨es, nn, ed, _⟩ := G.T.own
  refine ⟨T', ?_, fun n hn => (G.nd n hn).to fun b o hb _ _ e => s.extBut b o ?_ e, G.fa, G.fu, G.sN, G.sy, G.sd, G.b1, G.b2, G.b3, G.b4⟩
  · obtain ⟨o, es, ep, e, r⟩ := G.D
    exact ⟨o, es, ep, s.extBut _ _ G.sN e, r⟩
  · rintro rfl
    rcases hb with q | q | q
    · obtain ⟨t, tn, e1⟩ := (G.nd n hn).at_; rw [← q, ed] at e1; cases e1
    · exact (G.sd n hn).2 q.symm
    · obtain ⟨vs, ⟨m, p⟩, _⟩ := (G.nd n hn).succ; rw [← q, ed] at p; exact absurd (congrArg (fun o => o.map Obj.cls) p) (by simp)
omit [Lo] in
/-- the place of a node -/
theorem GS.noX {w : World} {h₀ h : Heap} {x dx N : Addr} {c : Nat} {m : Str → Option Value} {g : List Nd} (G : GS w h₀ h x dx N c m g) {b : Addr} {o : Obj} (e : h.get? b = some o) (q : o.cls = .type "list") : b ≠ x ∧ b ≠ dx ∧ b ≠ N ∧ ∀ n ∈ g, b ≠ n.a ∧ b ≠ n.d := by
  obtain ⟨es, nn, ed, _⟩ := G.T.own
  obtain ⟨od, eD, cD⟩ := DK.obj G.D
  refine ⟨?_, ?_, ?_, fun n hn => ⟨?_, ?_⟩⟩
  · rintro rfl; have := G.T.at_; rw [e] at this; cases this; cases q
  · rintro rfl; rw [e] at ed; cases ed; exact cn _ _ (by decide) q
  · rintro rfl; rw [e] at eD; cases eD; rw [cD] at q; exact cn _ _ (by decide) q
  · rintro rfl; obtain ⟨t, tn, e1⟩ := (G.nd n hn).at_; rw [e] at e1; cases e1; cases q
  · rintro rfl; have := (G.nd n hn).own; rw [e] at this; cases this; exact cn _ _ (by decide) q
omit [Lo] in
/-- a list that is no node's is changed -/
theorem GS.lst {w : World} {h₀ h h' : Heap} {x dx N l : Addr} {c : Nat} {m : Str → Option Value} {g : List Nd} (G : GS w h₀ h x dx N c m g) (s : Heap.SameBut l h h') (hl : ∃ o, h.get? l = some o ∧ o.cls = .type "list") (hu : l ∉ g.map Nd.u) : GS w h₀ h' x dx N c m g := by
  obtain ⟨o, e, q⟩ := hl
  obtain ⟨n1, n2, n3, n4⟩ := G.noX e q
  refine ⟨G.T.but s n1 n2, ?_, fun n hn => (G.nd n hn).to fun b o hb _ _ e => s.extBut b o ?_ e, G.fa, G.fu, G.sN, G.sy, G.sd, G.b1, G.b2, G.b3, G.b4⟩
  · obtain ⟨o, es, ep, e, r⟩ := G.D
    exact ⟨o, es, ep, s.extBut _ _ (Ne.symm n3) e, r⟩
  · rintro rfl
    rcases hb with q | q | q
    · exact (n4 n hn).1 q
    · exact (n4 n hn).2 q
    · exact hu (List.mem_map.mpr ⟨n, hn, q.symm⟩)
omit [Lo] in
theorem put_np (a b c k : Value) : slotPut #[some a, some b, some c] 1 k = #[some a, some k, some c] := by
  apply Array.ext'
  simp [slotPut, List.set]
omit [Lo] in
theorem nodup_at {α β : Type} {f : α → β} {l r : List α} {a b : α} (h : ((l ++ a :: r).map f).Nodup) (hb : b ∈ l ++ r) : f b ≠ f a := by
  rw [List.map_append, List.map_cons] at h
  intro q
  rw [List.nodup_append] at h
  obtain ⟨h1, h2, h3⟩ := h
  rw [List.nodup_cons] at h2
  rcases List.mem_append.mp hb with hb | hb
  · exact h3 _ (List.mem_map.mpr ⟨b, hb, rfl⟩) _ (List.mem_cons_self) q
  · exact h2.1 (q ▸ List.mem_map.mpr ⟨b, hb, rfl⟩)
omit [Lo] in
theorem mem_but {α : Type} {l r : List α} {a b : α} (h : b ∈ l ++ a :: r) : b = a ∨ b ∈ l ++ r := by
  rcases List.mem_append.mp h with h | h
  · exact .inr (List.mem_append_left _ h)
  · rcases List.mem_cons.mp h with h | h
    · exact .inl h
    · exact .inr (List.mem_append_right _ h)
omit [Lo] in
/-- a node's count is stored -/
theorem GS.setNp {w : World} {h₀ h h' : Heap} {x dx N : Addr} {c : Nat} {m : Str → Option Value} {l r : List Nd} {n : Nd} {k : Int} {t tn : Tok} (G : GS w h₀ h x dx N c m (l ++ n :: r)) (s : Heap.SameBut n.a h h')
    (e1 : h'.get? n.a = some { cls := .ref 125, dict := some n.d, data := .plain, slots := #[some (.str (S n.wd) t), some (.int k tn), some (.ref n.u)] }) : GS w h₀ h' x dx N c m (l ++ { n with np := k } :: r) := by
  have hn : n ∈ l ++ n :: r := List.mem_append_right _ List.mem_cons_self
  obtain ⟨t0, tn0, e0⟩ := (G.nd n hn).at_
  have ex : x ≠ n.a := fun q => by have := G.T.at_; rw [q, e0] at this; cases this
  obtain ⟨es, nn, edx, _⟩ := G.T.own
  have edx' : n.a ≠ dx := fun q => by rw [← q, e0] at edx; cases edx
  obtain ⟨oD, eD, cD⟩ := DK.obj G.D
  have eN : N ≠ n.a := fun q => by rw [q, e0] at eD; cases eD; cases cD
  have keepN : ∀ b o, b ≠ n.a → h.get? b = some o → h'.get? b = some o := fun b o hb e => s.extBut b o hb e
  have hu : n.u ≠ n.a := fun q => by obtain ⟨vs, ⟨_, p⟩, _⟩ := (G.nd n hn).succ; rw [q, e0] at p; cases p
  refine ⟨G.T.but s (Ne.symm ex) edx', ?_, fun y hy => ?_, ?_, ?_, G.sN, G.sy, fun y hy => ?_, G.b1, G.b2, G.b3, fun y hy => ?_⟩
  · obtain ⟨o, es, ep, e, rr⟩ := G.D
    refine ⟨o, es, ep, keepN _ _ eN e, ?_⟩
    simpa using rr
  · rcases mem_but hy with rfl | hy'
    · obtain ⟨vs, ⟨mm, p⟩, q⟩ := (G.nd n hn).succ
      exact ⟨⟨t, tn, e1⟩, keepN _ _ (fun q => by have := (G.nd n hn).own; rw [q, e0] at this; cases this) (G.nd n hn).own, vs, ⟨mm, keepN _ _ hu p⟩, q⟩
    · have hy2 : y ∈ l ++ n :: r := by
        rcases List.mem_append.mp hy' with q | q
        · exact List.mem_append_left _ q
        · exact List.mem_append_right _ (List.mem_cons_of_mem _ q)
      refine (G.nd y hy2).to fun b o hb _ _ e => keepN b o ?_ e
      rintro rfl
      rcases hb with q | q | q
      · exact nodup_at G.fa hy' q.symm
      · have := (G.nd y hy2).own; rw [← q, e0] at this; cases this
      · obtain ⟨vs, ⟨mm, p⟩, _⟩ := (G.nd y hy2).succ; rw [← q, e0] at p; cases p
  · simpa using G.fa
  · simpa using G.fu
  · rcases mem_but hy with rfl | hy'
    · exact G.sd n hn
    · refine G.sd y ?_
      rcases List.mem_append.mp hy' with q | q
      · exact List.mem_append_left _ q
      · exact List.mem_append_right _ (List.mem_cons_of_mem _ q)
  · rcases mem_but hy with rfl | hy'
    · exact G.b4 n hn
    · refine G.b4 y ?_
      rcases List.mem_append.mp hy' with q | q
      · exact List.mem_append_left _ q
      · exact List.mem_append_right _ (List.mem_cons_of_mem _ q)
omit [Lo] in
theorem mem_mid {α : Type} {l r : List α} {a y : α} (h : y ∈ l ++ r) : y ∈ l ++ a :: r := by
  rcases List.mem_append.mp h with q | q
  · exact List.mem_append_left _ q
  · exact List.mem_append_right _ (List.mem_cons_of_mem _ q)
omit [Lo] in
/-- a node gets another list of successors -/
theorem GS.setSc {w : World} {h₀ h h' : Heap} {x dx N : Addr} {c : Nat} {m : Str → Option Value} {l r : List Nd} {n : Nd} {sc : List (List Nat)} (G : GS w h₀ h x dx N c m (l ++ n :: r)) (s : Heap.SameBut n.u h h') (e : WL h' n.u sc) : GS w h₀ h' x dx N c m (l ++ { n with sc := sc } :: r) := by
  have hn : n ∈ l ++ n :: r := List.mem_append_right _ List.mem_cons_self
  obtain ⟨vs, ⟨mm, p⟩, q⟩ := (G.nd n hn).succ
  obtain ⟨n1, n2, n3, n4⟩ := G.noX p rfl
  have keepN : ∀ b o, b ≠ n.u → h.get? b = some o → h'.get? b = some o := fun b o hb e => s.extBut b o hb e
  refine ⟨G.T.but s n1 n2, ?_, fun y hy => ?_, ?_, ?_, G.sN, G.sy, fun y hy => ?_, G.b1, G.b2, G.b3, fun y hy => ?_⟩
  · obtain ⟨o, es, ep, e, rr⟩ := G.D
    refine ⟨o, es, ep, keepN _ _ (Ne.symm n3) e, ?_⟩
    simpa using rr
  · rcases mem_but hy with rfl | hy'
    · obtain ⟨t0, tn0, e0⟩ := (G.nd n hn).at_
      exact ⟨⟨t0, tn0, keepN _ _ (Ne.symm (n4 n hn).1) e0⟩, keepN _ _ (Ne.symm (n4 n hn).2) (G.nd n hn).own, e⟩
    · have hy2 := mem_mid (a := n) hy'
      refine (G.nd y hy2).to fun b o hb _ _ e => keepN b o ?_ e
      rintro rfl
      rcases hb with q | q | q
      · exact (n4 y hy2).1 q
      · exact (n4 y hy2).2 q
      · exact nodup_at G.fu hy' q.symm
  · simpa using G.fa
  · simpa using G.fu
  · rcases mem_but hy with rfl | hy'
    · exact G.sd n hn
    · exact G.sd y (mem_mid hy')
  · rcases mem_but hy with rfl | hy'
    · exact G.b4 n hn
    · exact G.b4 y (mem_mid hy')
omit [Lo] in
/-- a new node -/
theorem GS.addN {w : World} {h₀ h h' : Heap} {x dx N : Addr} {c : Nat} {m : Str → Option Value} {g : List Nd} {n : Nd} (G : GS w h₀ h x dx N c m g) (s : Heap.SameBut N h h') (D' : DK w h' N ((g ++ [n]).map fun n => (S n.wd, Value.ref n.a))) (hn : NdOk h n)
    (na : n.a ∉ g.map Nd.a) (nu : n.u ∉ g.map Nd.u) (nd : n.d ≠ N ∧ n.d ≠ dx) (nb : h₀.get? n.a = none ∧ h₀.get? n.d = none ∧ h₀.get? n.u = none) : GS w h₀ h' x dx N c m (g ++ [n]) := by
  obtain ⟨oD, eD, cD⟩ := DK.obj G.D
  have keepN : ∀ b o, b ≠ N → h.get? b = some o → h'.get? b = some o := fun b o hb e => s.extBut b o hb e
  have ok : ∀ y, NdOk h y → y.d ≠ N → NdOk h' y := fun y hy hd => hy.to fun b o hb _ _ e => keepN b o (by
    rintro rfl
    rcases hb with q | q | q
    · obtain ⟨t, tn, e1⟩ := hy.at_; rw [← q, eD] at e1; cases e1; cases cD
    · exact hd q.symm
    · obtain ⟨vs, ⟨mm, p⟩, _⟩ := hy.succ; rw [← q, eD] at p; cases p; exact cn _ _ (by decide) cD) e
  refine ⟨G.T.but s ?_ (by exact fun q => G.sN q), D', fun y hy => ?_, ?_, ?_, G.sN, G.sy, fun y hy => ?_, G.b1, G.b2, G.b3, fun y hy => ?_⟩
  · rintro rfl; have := G.T.at_; rw [eD] at this; cases this; cases cD
  · rcases List.mem_append.mp hy with q | q
    · exact ok y (G.nd y q) (G.sd y q).1
    · rw [List.mem_singleton.mp q]; exact ok n hn nd.1
  · rw [List.map_append, List.nodup_append]
    exact ⟨G.fa, by simp, fun a ha b hb q => by rw [List.map_singleton, List.mem_singleton] at hb; exact na (hb ▸ q ▸ ha)⟩
  · rw [List.map_append, List.nodup_append]
    exact ⟨G.fu, by simp, fun a ha b hb q => by rw [List.map_singleton, List.mem_singleton] at hb; exact nu (hb ▸ q ▸ ha)⟩
  · rcases List.mem_append.mp hy with q | q
    · exact G.sd y q
    · rw [List.mem_singleton.mp q]; exact nd
  · rcases List.mem_append.mp hy with q | q
    · exact G.b4 y q
    · rw [List.mem_singleton.mp q]; exact nb
end

section
open PySem PySem.W PySem.Calls PyProof.Rows PyProof.V
variable [Lo]
section
variable {w : World} {A : Around} {E : Value → Shared → Prop} {s : Shared}
omit [Lo] in
theorem asg_sub {env : Env} {o i : Expr} {pos : Pos} {v : Value} {Q : Unit → Shared → Prop} (h : wpAny (model PW w) A (eval o env) (fun ov s₁ => wpAny (model PW w) A (eval i env) (fun iv s₂ => wpAny (model PW w) A (setItem ov iv v) (fun _ s' => Q () s') E s₂) E s₁) E s) :
    wpAny (model PW w) A (assign (.Subscript o i pos) env v) Q E s := by
  rw [assign_Subscript]
  exact wpAny_bind (wpAny_holding (wpAny_mono h (fun ov s₁ h₁ => wpAny_bind (wpAny_holding (wpAny_mono h₁ (fun iv s₂ h₂ => wpAny_bind (wpAny_standAt (wpAny_bind (wpAny_holding (wpAny_mono h₂ (fun _ s₃ h₃ => wpAny_releaseD h₃) fun _ _ x => x))))) fun _ _ x => x))) fun _ _ x => x))
omit [Lo] in
theorem get_dk {N : Addr} {kvs : List (Str × Value)} {k : Str} {t : Tok} {Q : Value → Shared → Prop} (hs : (N == sysModules) = false) (D : DK w s.heap N kvs) (h : Q ((valueAt kvs k).getD .none) { s with toks := s.toks + 1 }) :
    wpAny (model PW w) A (call (.builtin "dict.get") [.ref N, .str k t]) Q E s :=
  call_meetsIn PySem.F.slot_dict_get D.typeIs PySem.F.entry_dict_get (PySem.F.args_dict_get_2 _ _) (meets_dict_get (strKind PW w) N (strKind_is PW w k t) hs) ⟨_, D.mapOf, h⟩
omit [Lo] in
theorem meth_dk {N : Addr} {kvs : List (Str × Value)} {name : Str} {id : String} {pl : Sem Bool} {Q : Value × List Value → Shared → Prop} (slot : Slot "dict" name id) (hty : typeOf (.builtin id) = pure (.type "method_descriptor"))
    (D : DK w s.heap N kvs) (h : Q (.builtin id, [.ref N]) s) : wpAny (model PW w) A (getMethod (.ref N) name pl) Q E s :=
  getMethod_builtin D.typeIs PySem.F.plainAttrs_dict slot hty D.mapOf.noDict h
end
omit [Lo] in
theorem val_nd (wd : List Nat) : ∀ g : List Nd, valueAt (g.map fun n => (S n.wd, Value.ref n.a)) (S wd) = (g.find? fun n => n.wd = wd).map fun n => Value.ref n.a
  | [] => rfl
  | n :: r => by
    have ih := val_nd wd r
    unfold valueAt at ih ⊢
    rw [List.map_cons, List.find?_cons, List.find?_cons]
    by_cases q : n.wd = wd
    · rw [decide_eq_true (by rw [q]), decide_eq_true q]; rfl
    · rw [decide_eq_false (fun z => q (S_inj z)), decide_eq_false q]; exact ih
omit [Lo] in
noncomputable def f165 (w : World) : Fn w 165 := ⟨_, _, _, _, rfl⟩
set_option maxHeartbeats 4000000 in
/-- _get_nodeinfo -/
theorem c_gni {w : World} {A : Around} {E : Value → Shared → Prop} {s : Shared} {Q : Value → Shared → Prop} {d : Nat} {h₀ : Heap} (C : Cx w h₀) (R : Rm A (d + 3) h₀) (k : Kp h₀ s.heap) {x dx N : Addr} {c : Nat} {m : Str → Option Value} {g : List Nd} {wd : List Nat} {t : Tok}
    (G : GS w h₀ s.heap x dx N c m g) (hN : m "_node2info" = some (.ref N)) (hlen : g.length ≤ 1000)
    (hold : ∀ n ∈ g, n.wd = wd → ∀ h' t', Kp h₀ h' → GS w h₀ h' x dx N c m g → Q (.ref n.a) { s with heap := h', toks := t' })
    (hnew : ∀ n h' t', n.wd = wd → n.np = 0 → n.sc = [] → (∀ y ∈ g, y.wd ≠ wd) → Kp h₀ h' → h₀.get? n.u = none → GS w h₀ h' x dx N c m (g ++ [n]) → Q (.ref n.a) { s with heap := h', toks := t' }) :
    wpAny (model PW w) A (call (.ref 165) [.ref x, .str (S wd) t]) Q E s := by
  refine' callK (f165 w) (d := d + 2) [("self", .ref x), ("node", .str (S wd) t)] (upd (upd (fun _ => none) "self" (.ref x)) "node" (.str (S wd) t)) (fun _ => none) (C.up k) (R.kp k) ?h2 ?h3 ?h4 ?h5 ?h6 ?h7 ?h8 ?h9 ?h10 ?h11 ?_
  case h2 => rfl
  case h3 => rfl
  case h4 => rfl
  case h5 => rfl
  case h6 => rfl
  case h7 => rfl
  case h8 => rfl
  case h9 => intro _; rfl
  case h10 => intro _; rfl
  case h11 => rfl
  intro L h₁ t₁ E' X R' C'
  refine cutQ fun P₀ hP₀ => ?_
  have X0 := X.base k
  have G1 := G.kp X.keep
  ktr_unf
  refine wpAny_NamedExpr ?_
  ktr_unf
  refine Attribute_Name_ ?_
  refine nm_loc X0.ev (by rfl) ?_
  refine own_get (o_n2i w) C' G1.T hN rfl ?_
  refine meth_dk PySem.F.slot_dict_get (by rfl) G1.D ?_
  ktr_unf
  refine nm_loc X0.ev (by rfl) ?_
  ktr_unf
  refine get_dk G1.sy G1.D ?_
  rw [val_nd]
  refine wpAny_assign_Name (st_loc X0 fun h2 X2 k2 => ?_)
  have G2 := G1.ko k2
  ktr_unf
  cases hf : g.find? fun n => n.wd = wd with
  | some n =>
    refine wpAny_is_other (by rfl) (fun e => nomatch e) ?_
    ktr_unf
    first | refine pif_f (by decide) ?_ | refine wif_f (by decide) ?_ | rw [if_neg (by decide)]
    ktr_unf
    refine nm_loc X2.ev (by rw [hf]; rfl) ?_
    ktr_unf
    exact hold n (List.mem_of_find?_eq_some hf) (by simpa using List.find?_some hf) _ _ X2.keep G2
  | none =>
    refine wpAny_is_self (by rfl) ?_
    ktr_unf
    first | refine pif_t rfl ?_ | refine wif_t rfl ?_ | rw [if_pos rfl]
    ktr_unf
    refine wpAny_Assign_two ?_
    ktr_unf
    refine nm_glob (v := .ref 125) (X2.cx C) (by rfl) ?_
    refine callWith_K (X2.cx C).k (by rfl) ?_
    ktr_unf
    refine nm_loc X2.ev (by rfl) ?_
    ktr_unf
    refine ⟨(X2.cx C).k, ?_⟩
    have R2 := X2.rm R
    refine mk_obj (X2.cx C) (by rfl) (by rfl : findIn (KF w.params) (.ref 125) "__init__" = some (some (.ref 121))) (by rfl) fun a da h3 k3 na nda ex1 ex2 hne => ?_
    refine c_ni_init (d := d) (h₀ := h2) (X2.cx C) (R2.tc 125 _ _) k3 na ex1 ex2 hne fun h4 t4 l tk k4 nl I4 D4 p4 => ?_
    refine ⟨rfl, ?_⟩
    have X4 := X2.kp k4
    have G4 := G2.kp k4
    refine asg_sub ?_
    refine Attribute_Name_ ?_
    refine nm_loc X4.ev (by rfl) ?_
    refine own_get (o_n2i w) (X4.cx C) G4.T hN rfl ?_
    refine nm_loc X4.ev (by rfl) ?_
    refine wpAny_setItem_pairs (strKind_is PW w _ _) G4.D (fun h5 D5 s5 => ?_) (by rw [List.length_map, sizeLine_is]; (first | lia | omega))
    have hno : ∀ y ∈ g, y.wd ≠ wd := fun y hy q => by
      have := List.find?_eq_none.mp hf y hy
      simp [q] at this
    have hst : stored (g.map fun n => (S n.wd, Value.ref n.a)) (S wd) (.ref a) = (g ++ [(⟨a, da, l, wd, 0, []⟩ : Nd)]).map fun n => (S n.wd, Value.ref n.a) := by
      unfold stored
      rw [if_neg]
      · rw [List.map_append]; rfl
      · simp only [List.any_map, List.any_eq_true, not_exists, not_and]
        intro y hy q
        exact hno y hy (S_inj (by simpa using q))
    rw [hst] at D5
    have nd4 : NdOk h4 ⟨a, da, l, wd, 0, []⟩ := ⟨⟨_, _, I4⟩, D4, [], p4, .nil⟩
    have hN2 : ∃ o, h2.get? N = some o := let ⟨o, e, _⟩ := DK.obj G2.D; ⟨o, e⟩
    have hx2 : ∃ o, h2.get? dx = some o := let ⟨es, n, e, _⟩ := G2.T.own; ⟨_, e⟩
    have nl2 : h2.get? l = none := k3.none nl
    have G5 : GS w h₀ h5 x dx N c m (g ++ [(⟨a, da, l, wd, 0, []⟩ : Nd)]) := G4.addN s5 D5 nd4
      (fun q => by obtain ⟨y, hy, e⟩ := List.mem_map.mp q; obtain ⟨_, _, e2⟩ := (G2.nd y hy).at_; rw [e, na] at e2; cases e2)
      (fun q => by obtain ⟨y, hy, e⟩ := List.mem_map.mp q; obtain ⟨_, ⟨_, e2⟩, _⟩ := (G2.nd y hy).succ; rw [e, nl2] at e2; cases e2)
      ⟨(fun q => by obtain ⟨o, e⟩ := hN2; rw [← q, nda] at e; cases e), (fun q => by obtain ⟨o, e⟩ := hx2; rw [← q, nda] at e; cases e)⟩
      ⟨X2.keep.none na, X2.keep.none nda, X2.keep.none nl2⟩
    have X5 := X4.but s5 G.b3 (let ⟨o, e, q⟩ := DK.obj G4.D; ⟨o, e, by rw [q]; exact cn _ _ (by decide), by rw [q]; exact cn _ _ (by decide)⟩)
    refine wpAny_assign_Name (st_loc X5 fun h6 X6 k6 => ?_)
    ktr_unf
    refine nm_loc X6.ev (by rfl) ?_
    ktr_unf
    exact hnew ⟨a, da, l, wd, 0, []⟩ _ _ rfl rfl rfl hno X6.keep (X2.keep.none nl2) (G5.ko k6)
end

section
open PySem PySem.W PySem.Calls PyProof.Rows PyProof.V
variable [Lo]
section
variable {w : World} {A : Around} {E : Value → Shared → Prop} {env : Env} {s : Shared}
/-- what a for has to bring -/
inductive ForOk2 (h₀ : Heap) (w : World) (A : Around) (env : Env) (body : List Stmt) (bm bc : (Str → Option Value) → Value → Str → Option Value) (Q : Flow → Shared → Prop) (xv : Value) (s₁ : Shared) : Prop
  | mk (old : List Addr) (n : Nat) (P : Nat → Value → Prop) (m cm : Str → Option Value) (Z : List Addr) (J : Addr → Nat → (Str → Option Value) → (Str → Option Value) → Heap → Prop) (X : Bd h₀ env m cm s₁.heap) (S : Src w A xv s₁ old n P) (hZ : ∀ z ∈ Z, z ∉ old ∧ ∃ o, s₁.heap.get? z = some o)
    (hJ : ∀ I i m cm h h', (∀ b o, b ≠ I → h.get? b = some o → o.cls ≠ .type "frame" → o.cls ≠ .type "cell" → h'.get? b = some o) → J I i m cm h → J I i m cm h') (J0 : J s₁.heap.objs.size 0 m cm s₁.heap)
    (turn : ∀ I i v m₁ cm₁ s₂ E', i < n → P i v → s₁.heap.get? I = none → (∃ o, s₂.heap.get? I = some o ∧ o.cls ≠ .type "frame" ∧ o.cls ≠ .type "cell") → Bd h₀ env (bm m₁ v) (bc cm₁ v) s₂.heap → Kz Z s₁.heap s₂.heap → J I i m₁ cm₁ s₂.heap →
        wpAny (model PW w) A (execs body env) (fun f s₃ => match f with
          | .next | .cont => TEnd h₀ env s₂ (fun h₃ => Kz Z s₁.heap h₃ ∧ ∀ o, s₂.heap.get? I = some o → h₃.get? I = some o) (J I (i + 1)) s₃
          | .brk => Q .next s₃
          | .ret v => Q (.ret v) s₃) E' s₂)
    (fin : ∀ I m₁ cm₁ h' t', s₁.heap.get? I = none → Bd h₀ env m₁ cm₁ h' → Kz Z s₁.heap h' → J I n m₁ cm₁ h' → Q .next { s₁ with heap := h', toks := t' }) : ForOk2 h₀ w A env body bm bc Q xv s₁
/-- a for over a source, with a word of what holds between the turns -/
theorem for_rule2 {h₀ : Heap} {x : Str} {px pos : Pos} {iter : Expr} {body : List Stmt} {Q : Flow → Shared → Prop} {bm bc : (Str → Option Value) → Value → Str → Option Value} (hb : Binds env x bm bc)
    (h : wpAny (model PW w) A (eval iter env) (ForOk2 h₀ w A env body bm bc Q) E s)
    (hs : ∀ x, foldedSetIterable iter env x = pure x := by intro _; rfl) :
    wpAny (model PW w) A (exec (.For (.Name x px) iter body [] pos) env) Q E s := by
  refine wpAny_For (wpAny_mono h (fun xv s₁ h₁ => ?_) fun _ _ e => e) hs
  obtain ⟨old, n, P, m, cm, Z, J, X, S, hZ, hJ, J0, turn, fin⟩ := h₁
  refine S.it _ _ fun o St W hst hof hlive => ?_
  generalize hI : s₁.heap.objs.size = I at *
  have hIn : s₁.heap.get? I = none := ge_none (by rw [hI]; exact Nat.le_refl _)
  have hIp : (s₁.heap.push o).get? I = some o := by rw [← hI]; exact Heap.get?_push_size _ hof
  refine codeAny_forLoop (FInv h₀ env s₁ n St (Kz Z s₁.heap) (J I)) ?_ (n + 1)
    ⟨0, _, _, m, cm, rfl, Nat.zero_le _, rfl, hst, X.push o, fun b o' _ e _ _ => Heap.get?_push_of_some _ e, hJ _ _ _ _ _ _ (fun b o' _ e _ _ => Heap.get?_push_of_some _ e) J0⟩
  rintro k s' ⟨i, H, t, m₁, cm₁, rfl, hi, rfl, hst', X', hz, hJi⟩
  have bdI : ∀ h₁, (∀ b o, b ∉ [I] → H.get? b = some o → h₁.get? b = some o) → Bd h₀ env m₁ cm₁ h₁ := fun h₁ hk => X'.bit (hlive _ _ hst') (X.keep.none hIn) fun b o hb e => hk b o (by simpa using hb) e
  have zI : ∀ h₁, (∀ b o, b ∉ [I] → H.get? b = some o → h₁.get? b = some o) → Kz Z s₁.heap h₁ := fun h₁ hk b o nz e n1 n2 =>
    hk b o (fun q => by rw [List.mem_singleton.mp q, hIn] at e; cases e) (hz b o nz e n1 n2)
  have jI : ∀ h₁, (∀ b o, b ∉ [I] → H.get? b = some o → h₁.get? b = some o) → J I i m₁ cm₁ h₁ := fun h₁ hk => hJ _ _ _ _ _ _ (fun b o hb e _ _ => hk b o (by simpa using hb) e) hJi
  by_cases hlt : i < n
  · refine W.item i _ _ _ hlt hst' fun v h₁ tk₁ hPv hst₁ hk₁ => ?_
    refine wpAny_assign_Name (hb.st (bdI h₁ hk₁) fun h₂ t₂ X₂ k₂ => ?_)
    have hz₂ : Kz Z s₁.heap h₂ := (zI h₁ hk₁).trans (k₂.z Z)
    have hst₂ : St (i + 1) h₂ := W.frame _ _ _ hst₁ fun b hb' o' e => by
      rcases List.mem_cons.mp hb' with q | hb'
      · subst b; obtain ⟨o2, e2, n1, n2⟩ := hlive _ _ hst₁; rw [e] at e2; cases e2; exact k₂ _ _ e n1 n2
      · obtain ⟨o2, e2, n1, n2⟩ := S.old b hb'
        have := zI h₁ hk₁ b o2 (fun q => (hZ b q).1 hb') e2 n1 n2
        rw [e] at this; cases this; exact k₂ _ _ e n1 n2
    refine wpAny_mono (turn I i v m₁ cm₁ _ _ hlt hPv hIn (hlive _ _ hst₂) X₂ hz₂ (hJ _ _ _ _ _ _ (fun b o _ e n1 n2 => k₂ b o e n1 n2) (jI h₁ hk₁))) (fun f s₃ h₃ => ?_) fun _ _ e => e
    have fin' : TEnd h₀ env { s₁ with heap := h₂, toks := t₂ } (fun h₃ => Kz Z s₁.heap h₃ ∧ ∀ o, h₂.get? I = some o → h₃.get? I = some o) (J I (i + 1)) s₃ → ∃ k', k' < n + 1 - i ∧ FInv h₀ env s₁ n St (Kz Z s₁.heap) (J I) k' s₃ := by
      rintro ⟨H3, t3, m₂, cm₂, rfl, X₃, ⟨z₃, zI₃⟩, J₃⟩
      refine ⟨n + 1 - (i + 1), by (first | lia | omega), i + 1, H3, t3, m₂, cm₂, rfl, hlt, rfl, ?_, X₃, z₃, J₃⟩
      refine W.frame _ _ _ hst₂ fun b hb' o' e => ?_
      rcases List.mem_cons.mp hb' with q | hb'
      · subst b; exact zI₃ _ e
      · obtain ⟨o2, e2, n1, n2⟩ := S.old b hb'
        have := hz₂ b o2 (fun q => (hZ b q).1 hb') e2 n1 n2
        rw [e] at this; cases this
        exact z₃ _ _ (fun q => (hZ b q).1 hb') e2 n1 n2
    cases f with
    | next => exact fin' h₃
    | cont => exact fin' h₃
    | brk => exact h₃
    | ret v => exact h₃
  · have hin : i = n := by (first | lia | omega)
    refine W.done _ _ _ (hin ▸ hst') fun h₁ tk₁ hk₁ => wpAny_execs_nil ?_
    exact fin I m₁ cm₁ h₁ tk₁ hIn (bdI h₁ hk₁) (zI h₁ hk₁) (hin ▸ jI h₁ hk₁)
end
omit [Lo] in
/-- all the addresses of the graph -/
def Zg (x dx N : Addr) (g : List Nd) : List Addr := x :: dx :: N :: g.flatMap fun n => [n.a, n.d, n.u]
omit [Lo] in
theorem zg_mem {x dx N : Addr} {g : List Nd} {b : Addr} : b ∈ Zg x dx N g ↔ b = x ∨ b = dx ∨ b = N ∨ ∃ n ∈ g, b = n.a ∨ b = n.d ∨ b = n.u := by
  simp [Zg]
omit [Lo] in
theorem GS.z {w : World} {h₀ h : Heap} {x dx N : Addr} {c : Nat} {m : Str → Option Value} {g : List Nd} (G : GS w h₀ h x dx N c m g) : ∀ z ∈ Zg x dx N g, h₀.get? z = none := by
  intro z hz
  rcases zg_mem.mp hz with rfl | rfl | rfl | ⟨n, hn, rfl | rfl | rfl⟩
  · exact G.b1
  · exact G.b2
  · exact G.b3
  · exact (G.b4 n hn).1
  · exact (G.b4 n hn).2.1
  · exact (G.b4 n hn).2.2
omit [Lo] in
theorem GS.live {w : World} {h₀ h : Heap} {x dx N : Addr} {c : Nat} {m : Str → Option Value} {g : List Nd} (G : GS w h₀ h x dx N c m g) : ∀ z ∈ Zg x dx N g, ∃ o, h.get? z = some o ∧ o.cls ≠ .type "frame" ∧ o.cls ≠ .type "cell" := by
  intro z hz
  rcases zg_mem.mp hz with rfl | rfl | rfl | ⟨n, hn, rfl | rfl | rfl⟩
  · exact ⟨_, G.T.at_, (fun q => nomatch q), fun q => nomatch q⟩
  · obtain ⟨es, n, e, _⟩ := G.T.own; exact ⟨_, e, cn _ _ (by decide), cn _ _ (by decide)⟩
  · obtain ⟨o, e, c⟩ := DK.obj G.D; exact ⟨_, e, by rw [c]; exact cn _ _ (by decide), by rw [c]; exact cn _ _ (by decide)⟩
  · obtain ⟨t, tn, e⟩ := (G.nd n hn).at_; exact ⟨_, e, (fun q => nomatch q), fun q => nomatch q⟩
  · exact ⟨_, (G.nd n hn).own, cn _ _ (by decide), cn _ _ (by decide)⟩
  · obtain ⟨vs, ⟨m, p⟩, _⟩ := (G.nd n hn).succ; exact ⟨_, p, cn _ _ (by decide), cn _ _ (by decide)⟩
omit [Lo] in
theorem GS.toZ {w : World} {h₀ h h' : Heap} {x dx N : Addr} {c : Nat} {m : Str → Option Value} {g : List Nd} (G : GS w h₀ h x dx N c m g) (k : ∀ b o, b ∈ Zg x dx N g → o.cls ≠ .type "frame" → o.cls ≠ .type "cell" → h.get? b = some o → h'.get? b = some o) : GS w h₀ h' x dx N c m g := by
  refine ⟨⟨k _ _ (zg_mem.mpr (.inl rfl)) (fun q => nomatch q) (fun q => nomatch q) G.T.at_, G.T.ne, ?_⟩, ?_, fun n hn => (G.nd n hn).to fun b o hb n1 n2 e => k b o (zg_mem.mpr (.inr (.inr (.inr ⟨n, hn, hb⟩)))) n1 n2 e, G.fa, G.fu, G.sN, G.sy, G.sd, G.b1, G.b2, G.b3, G.b4⟩
  · obtain ⟨es, n, e, r⟩ := G.T.own
    exact ⟨es, n, k _ _ (zg_mem.mpr (.inr (.inl rfl))) (cn _ _ (by decide)) (cn _ _ (by decide)) e, r⟩
  · obtain ⟨o, es, ep, e, c, r⟩ := G.D
    exact ⟨o, es, ep, k _ _ (zg_mem.mpr (.inr (.inr (.inl rfl)))) (by rw [c.1]; exact cn _ _ (by decide)) (by rw [c.1]; exact cn _ _ (by decide)) e, c, r⟩
theorem Bd.woZ {h₀ : Heap} {env : Env} {m cm : Str → Option Value} {h : Heap} {Z : List Addr} (X : Bd h₀ env m cm h) (live : ∀ z ∈ Z, ∃ o, h.get? z = some o ∧ o.cls ≠ .type "frame" ∧ o.cls ≠ .type "cell") (n : ∀ z ∈ Z, h₀.get? z = none) : Bd h₀ env m cm (Mine.wo Z h) := by
  have hL : env.locals ∉ Z := fun q => by obtain ⟨o', e', c⟩ := X.fc; obtain ⟨o, e, n1, _⟩ := live _ q; rw [e] at e'; cases e'; exact n1 c
  have hC : ∀ n c, (n, c) ∈ env.cells → c ∉ Z := fun n c hm q => by obtain ⟨o', e', c'⟩ := X.cc n c hm; obtain ⟨o, e, _, n2⟩ := live _ q; rw [e] at e'; cases e'; exact n2 c'
  have g : ∀ b, b ∉ Z → (Mine.wo Z h).get? b = h.get? b := fun b hb => wo_get hb
  exact ⟨⟨X.ev.ns.at' fun o e => (g _ hL).trans e, fun n c hc => by obtain ⟨o, e1, d⟩ := X.ev.cell n c hc; exact ⟨o, (g _ (hC n c (mem_of_lookup hc))).trans e1, d⟩⟩, let ⟨o', e', c⟩ := X.fc; ⟨o', (g _ hL).trans e', c⟩, X.apart,
    fun n c hm => let ⟨o', e', c'⟩ := X.cc n c hm; ⟨o', (g _ (hC n c hm)).trans e', c'⟩, kp_wo X.keep n, X.nl, X.nc, X.lo⟩
omit [Lo] in
/-- a call upon the graph: the base without the graph -/
theorem GS.sub {w : World} {h₀ h : Heap} {x dx N : Addr} {c : Nat} {m : Str → Option Value} {g : List Nd} (G : GS w h₀ h x dx N c m g) : GS w (wo (Zg x dx N g) h) h x dx N c m g := G.base fun b _ hb => wo_none (zg_mem.mpr hb)
theorem GS.sup {w : World} {h₀ H h : Heap} {x dx N : Addr} {c : Nat} {m : Str → Option Value} {g : List Nd} (G : GS w H h x dx N c m g) (k : Kp h₀ H) : GS w h₀ h x dx N c m g := G.base fun b hb _ => k.none hb
theorem GS.bd {w : World} {h₀ h : Heap} {env : Env} {mm cm : Str → Option Value} {x dx N : Addr} {c : Nat} {m : Str → Option Value} {g : List Nd} (G : GS w h₀ h x dx N c m g) (X : Bd h₀ env mm cm h) : Bd h₀ env mm cm (wo (Zg x dx N g) h) := X.woZ G.live G.z
omit [Lo] in
theorem ref_mem {w : World} {h₀ h : Heap} {x dx N : Addr} {c : Nat} {m : Str → Option Value} {g : List Nd} (G : GS w h₀ h x dx N c m g) {b : Addr} {o : Obj} (e : h₀.get? b = some o) : b ∉ Zg x dx N g := fun q => by rw [G.z _ q] at e; cases e
omit [Lo] in
/-- the graph as words -/
abbrev AN := List Nat × Int × List (List Nat)
omit [Lo] in
def Nd.ab (n : Nd) : AN := (n.wd, n.np, n.sc)
omit [Lo] in
def gniA (wd : List Nat) (g : List AN) : List AN := if g.any (fun p => p.1 == wd) then g else g ++ [(wd, 0, [])]
omit [Lo] in
def npA (wd : List Nat) (f : Int → Int) (g : List AN) : List AN := g.map fun p => if p.1 = wd then (p.1, f p.2.1, p.2.2) else p
omit [Lo] in
def scA (wd y : List Nat) (g : List AN) : List AN := g.map fun p => if p.1 = wd then (p.1, p.2.1, p.2.2 ++ [y]) else p
omit [Lo] in
abbrev WN (g : List AN) : Prop := (g.map (·.1)).Nodup
omit [Lo] in
theorem wn_gni {wd : List Nat} {g : List AN} (h : WN g) : WN (gniA wd g) := by
  unfold gniA
  split
  · exact h
  · rename_i q
    unfold WN
    rw [List.map_append, List.nodup_append]
    refine ⟨h, by simp, fun a ha b hb e => ?_⟩
    rw [List.map_singleton, List.mem_singleton] at hb
    obtain ⟨p, hp, rfl⟩ := List.mem_map.mp ha
    refine q (List.any_eq_true.mpr ⟨p, hp, ?_⟩)
    rw [beq_iff_eq]; exact e.trans hb
omit [Lo] in
theorem np_fst {wd : List Nat} {f : Int → Int} {g : List AN} : (npA wd f g).map (·.1) = g.map (·.1) := by
  unfold npA; rw [List.map_map]; refine List.map_congr_left fun p _ => ?_; dsimp only [Function.comp]; split <;> rfl
omit [Lo] in
theorem sc_fst {wd y : List Nat} {g : List AN} : (scA wd y g).map (·.1) = g.map (·.1) := by
  unfold scA; rw [List.map_map]; refine List.map_congr_left fun p _ => ?_; dsimp only [Function.comp]; split <;> rfl
omit [Lo] in
theorem wn_np {wd : List Nat} {f : Int → Int} {g : List AN} (h : WN g) : WN (npA wd f g) := by unfold WN; rw [np_fst]; exact h
omit [Lo] in
theorem wn_sc {wd y : List Nat} {g : List AN} (h : WN g) : WN (scA wd y g) := by unfold WN; rw [sc_fst]; exact h
omit [Lo] in
theorem wn_off {l r : List AN} {p : AN} (h : WN (l ++ p :: r)) : (∀ q ∈ l, q.1 ≠ p.1) ∧ ∀ q ∈ r, q.1 ≠ p.1 := by
  have h : ((l ++ p :: r).map (·.1)).Nodup := h
  rw [List.map_append, List.map_cons, List.nodup_append] at h
  obtain ⟨_, h2, h3⟩ := h
  rw [List.nodup_cons] at h2
  exact ⟨fun q hq e => h3 _ (List.mem_map.mpr ⟨q, hq, rfl⟩) _ List.mem_cons_self e, fun q hq e => h2.1 (List.mem_map.mpr ⟨q, hq, e⟩)⟩
omit [Lo] in
theorem map_off {l : List AN} {wd : List Nat} {f : AN → AN} (h : ∀ q ∈ l, q.1 ≠ wd) : l.map (fun p => if p.1 = wd then f p else p) = l := by
  conv => rhs; rw [← List.map_id l]
  exact List.map_congr_left fun q hq => by rw [if_neg (h q hq)]; rfl
omit [Lo] in
theorem np_at {l r : List AN} {p : AN} {f : Int → Int} (h : WN (l ++ p :: r)) : npA p.1 f (l ++ p :: r) = l ++ (p.1, f p.2.1, p.2.2) :: r := by
  obtain ⟨h1, h2⟩ := wn_off h
  unfold npA
  rw [List.map_append, List.map_cons, if_pos rfl, map_off h1, map_off h2]
omit [Lo] in
theorem sc_at {l r : List AN} {p : AN} {y : List Nat} (h : WN (l ++ p :: r)) : scA p.1 y (l ++ p :: r) = l ++ (p.1, p.2.1, p.2.2 ++ [y]) :: r := by
  obtain ⟨h1, h2⟩ := wn_off h
  unfold scA
  rw [List.map_append, List.map_cons, if_pos rfl, map_off h1, map_off h2]
omit [Lo] in
theorem gni_len {wd : List Nat} {g : List AN} : (gniA wd g).length ≤ g.length + 1 := by
  unfold gniA; split
  · (first | lia | omega)
  · rw [List.length_append]; exact Nat.le_refl _
omit [Lo] in
theorem ab_split {n : Nd} {g : List Nd} (h : n ∈ g) : ∃ l r, g = l ++ n :: r := List.append_of_mem h
end

section
open PySem PySem.W PySem.Calls PyProof.Rows PyProof.V
variable [Lo]
section
variable {w : World} {A : Around} {E : Value → Shared → Prop} {s : Shared}
omit [Lo] in
theorem star_list {a : Addr} {vs : List Value} {Q : List Value → Shared → Prop} (hl : s.heap.PlainList a vs.toArray) (hz : vs.length ≤ 100000) (h : ∀ h', (∀ b o, s.heap.get? b = some o → h'.get? b = some o) → Q vs { s with heap := h' }) : StarOf (model PW w) A E (.ref a) Q s := by
  obtain ⟨n, e⟩ := hl
  have hT : s.TypeIs (.ref a) "list" := ⟨_, e, rfl⟩
  have z : wpAny (model PW w) A (collect (.ref a)) Q E s := wpAny_collect_seq a (.inl rfl) e rfl rfl (fun h' hk => h h' hk) (by rw [List.size_toArray, sizeLine_is]; (first | lia | omega))
  unfold StarOf notIterableAtAll
  exact wpAny_bind (wpAny_specialOf hT PySem.F.slot_list_iter.lookup (wpAny_pure ⟨rfl, z⟩))
omit [Lo] in
theorem star_tuple {a : Addr} {vs : List Value} {Q : List Value → Shared → Prop} (hl : s.heap.IsTuple a vs.toArray) (hz : vs.length ≤ 100000) (h : ∀ h', (∀ b o, s.heap.get? b = some o → h'.get? b = some o) → Q vs { s with heap := h' }) : StarOf (model PW w) A E (.ref a) Q s := by
  obtain ⟨o, e, hc, n, hd⟩ := hl
  have hT : s.TypeIs (.ref a) "tuple" := ⟨_, e, hc⟩
  have z : wpAny (model PW w) A (collect (.ref a)) Q E s := wpAny_collect_seq a (.inr rfl) e hc hd (fun h' hk => h h' hk) (by rw [List.size_toArray, sizeLine_is]; (first | lia | omega))
  unfold StarOf notIterableAtAll
  exact wpAny_bind (wpAny_specialOf hT PySem.F.slot_tuple_iter.lookup (wpAny_pure ⟨rfl, z⟩))
theorem new_tuple {vs : List Value} {Q : Value → Shared → Prop} (h : ∀ l h', l = s.heap.objs.size → Kp s.heap h' → s.heap.get? l = none → h'.IsTuple l vs.toArray → Q (.ref l) { s with heap := h' }) (hsz : vs.length ≤ sizeLine := by size_fits) :
    wpAny (model PW w) A (newTuple vs) Q E s :=
  wpAny_newTuple (h _ _ rfl (Kp.push _ _) (size_none _) ⟨_, Heap.get?_push_size _ rfl, rfl, _, rfl⟩) hsz
omit [Lo] in
theorem i_add {a b : Int} {t u : Tok} {Q : Value → Shared → Prop} (h : ∀ t' k, Q (.int (a + b) t') { s with toks := k }) : wpAny (model PW w) A (inplaceOp .Add (.int a t) (.int b u)) Q E s := PySem.AutoIntOps.iadd_0 (h _ _)
omit [Lo] in
theorem i_sub {a b : Int} {t u : Tok} {Q : Value → Shared → Prop} (h : ∀ t' k, Q (.int (a - b) t') { s with toks := k }) : wpAny (model PW w) A (inplaceOp .Sub (.int a t) (.int b u)) Q E s := PySem.AutoIntOps.isub_0 (h _ _)
omit [Lo] in
theorem len_T {a : Addr} {vs : List Value} {Q : Value → Shared → Prop} (hl : s.heap.IsTuple a vs.toArray) (hsz : vs.length ≤ 100000) (h : ∀ t' k, Q (.int vs.length t') { s with toks := k }) : wpAny (model PW w) A (call (.builtin "len") [.ref a]) Q E s := by
  refine len_tuple (items := vs.toArray) hl (by rw [List.size_toArray]; (first | lia | omega)) ?_
  simpa using h _ _
omit [Lo] in
theorem meth_L {l : Addr} {vs : List Value} {name : Str} {id : String} {pl : Sem Bool} {Q : Value × List Value → Shared → Prop} (slot : Slot "list" name id) (hty : typeOf (.builtin id) = pure (.type "method_descriptor"))
    (hl : s.heap.PlainList l vs.toArray) (h : Q (.builtin id, [.ref l]) s) : wpAny (model PW w) A (getMethod (.ref l) name pl) Q E s := by
  obtain ⟨n, e⟩ := hl
  exact getMethod_builtin ⟨_, e, rfl⟩ PySem.F.plainAttrs_list slot hty (fun a q => by cases q; exact ⟨_, e, rfl⟩) h
omit [Lo] in
theorem app_L {l : Addr} {vs : List Value} {x : Value} {Q : Value → Shared → Prop} (hl : s.heap.PlainList l vs.toArray) (hsz : vs.length ≤ 100000)
    (h : ∀ h', h'.PlainList l (vs ++ [x]).toArray → Heap.SameBut l s.heap h' → Q .none { s with heap := h' }) : wpAny (model PW w) A (call (.builtin "list.append") [.ref l, x]) Q E s :=
  wpAny_list_append_plain hl (fun h' a b => h h' (by simpa using a) b) (by rw [List.size_toArray, sizeLine_is]; (first | lia | omega))
end
omit [Lo] in
noncomputable def f172 (w : World) : Fn w 172 := ⟨_, _, _, _, rfl⟩
omit [Lo] in
noncomputable def f205 (w : World) : Fn w 205 := ⟨_, _, _, _, rfl⟩
omit [Lo] in
noncomputable def f158 (w : World) : Fn w 158 := ⟨_, _, _, _, rfl⟩
omit [Lo] in
theorem bind_add (w : World) (a b : Value) (ps : List Value) : bindArgs (f172 w).1 ⟨a :: b :: ps, []⟩ = (do let t ← newTuple ps; pure [("self", a), ("node", b), ("predecessors", t)]) := by
  cases ps with
  | nil => rfl
  | cons p r => rfl
omit [Lo] in
theorem bind_done (w : World) (a : Value) (ps : List Value) : bindArgs (f205 w).1 ⟨a :: ps, []⟩ = (do let t ← newTuple ps; pure [("self", a), ("nodes", t)]) := by
  cases ps with
  | nil => rfl
  | cons p r => rfl
omit [Lo] in
theorem peek_init (w : World) (a : Value) : peek (KF w.params) ⟨PW, w.params⟩ (bindArgs (f158 w).1 ⟨[a], []⟩) = some [(("self" : Str), a), (("graph" : Str), Value.none)] := by rfl
theorem bind_init {w : World} {A : Around} {E : Value → Shared → Prop} {s : Shared} {Q : List (Str × Value) → Shared → Prop} {a : Value} (C : Cx w s.heap) (h : Q [(("self" : Str), a), (("graph" : Str), Value.none)] s) : wpAny (model PW w) A (bindArgs (f158 w).1 ⟨[a], []⟩) Q E s := by
  intro Γ p hΓ
  exact wp_of_peek C.k h _ (peek_init w a)
theorem tp_kp {h h' : Heap} {a : Addr} {vs : Array Value} (x : h.IsTuple a vs) (k : Kp h h') : h'.IsTuple a vs := let ⟨o, e, c, r⟩ := x; ⟨o, k.off _ _ e (kc c), c, r⟩
omit [Lo] in
theorem tp_ko {h h' : Heap} {a : Addr} {vs : Array Value} (x : h.IsTuple a vs) (k : Ko h h') : h'.IsTuple a vs := let ⟨o, e, c, r⟩ := x; ⟨o, k _ _ e (kc c) (kc c), c, r⟩
omit [Lo] in
theorem tp_wo {h : Heap} {Z : List Addr} {a : Addr} {vs : Array Value} (x : h.IsTuple a vs) (k : a ∉ Z) : (wo Z h).IsTuple a vs := let ⟨o, e, c, r⟩ := x; ⟨o, (wo_get k).trans e, c, r⟩
omit [Lo] in
theorem tp_but {h h' : Heap} {a b : Addr} {vs : Array Value} (x : h.IsTuple a vs) (k : Heap.SameBut b h h') (n : a ≠ b) : h'.IsTuple a vs := let ⟨o, e, c, r⟩ := x; ⟨o, k.extBut _ _ n e, c, r⟩
omit [Lo] in
/-- new, or one of Z -/
def Fz (Z : List Addr) (h : Heap) (Z' : List Addr) : Prop := ∀ z ∈ Z', z ∉ Z → ∀ o, h.get? z = some o → o.cls = .type "frame" ∨ o.cls = .type "cell"
omit [Lo] in
theorem fz_self {Z : List Addr} {h : Heap} : Fz Z h Z := fun _ a b => absurd a b
omit [Lo] in
theorem kz_refl {Z : List Addr} {h : Heap} : Kz Z h h := fun _ _ _ e _ _ => e
theorem kz_wo {Z Z' : List Addr} {h1 h2 h3 : Heap} (z : Kz Z h1 h2) (hz : Fz Z h1 Z') (k : Kp (wo Z' h2) h3) : Kz Z h1 h3 :=
  fun b o hb e n1 n2 => k.off b o ((wo_get (fun q => (hz b q hb o e).elim n1 n2)).trans (z b o hb e n1 n2)) n1
omit [Lo] in
theorem fz_wo {Z Z' Z'' : List Addr} {h1 h2 : Heap} (z : Kz Z h1 h2) (hz : Fz Z h1 Z') (hH : ∀ b ∈ Z'', (wo Z' h2).get? b = none) : Fz Z h1 Z'' := by
  intro b hb hbZ o e
  by_cases q1 : o.cls = .type "frame"
  · exact .inl q1
  by_cases q2 : o.cls = .type "cell"
  · exact .inr q2
  have n : b ∉ Z' := fun q => (hz b q hbZ o e).elim q1 q2
  have := hH b hb
  rw [wo_get n, z b o hbZ e q1 q2] at this
  cases this
omit [Lo] in
theorem kz_but {Z : List Addr} {h1 h2 h3 : Heap} {u : Addr} (z : Kz Z h1 h2) (hz : Fz Z h1 [u]) (s : Heap.SameBut u h2 h3) : Kz Z h1 h3 :=
  fun b o hb e n1 n2 => s.extBut b o (fun q => (hz b (by rw [q]; exact List.mem_singleton_self u) hb o e).elim n1 n2) (z b o hb e n1 n2)
omit [Lo] in
theorem Fz.sub {Z Z' Z'' : List Addr} {h : Heap} (x : Fz Z h Z') (k : ∀ b ∈ Z'', b ∈ Z') : Fz Z h Z'' := fun b hb => x b (k b hb)
omit [Lo] in
theorem np_nd {l r : List Nd} {n : Nd} (f : Int → Int) (wn : WN ((l ++ n :: r).map Nd.ab)) : (l ++ { n with np := f n.np } :: r).map Nd.ab = npA n.wd f ((l ++ n :: r).map Nd.ab) := by
  rw [List.map_append, List.map_cons] at wn ⊢
  rw [List.map_append, List.map_cons]
  exact (np_at wn).symm
omit [Lo] in
theorem sc_nd {l r : List Nd} {n : Nd} (y : List Nat) (wn : WN ((l ++ n :: r).map Nd.ab)) : (l ++ { n with sc := n.sc ++ [y] } :: r).map Nd.ab = scA n.wd y ((l ++ n :: r).map Nd.ab) := by
  rw [List.map_append, List.map_cons] at wn ⊢
  rw [List.map_append, List.map_cons]
  exact (sc_at wn).symm
section
variable {w : World} {A : Around} {E : Value → Shared → Prop} {s : Shared}
/-- callG, as code -/
theorem callGC {a : Addr} (f : Fn w a) {body : List Stmt} {args : Args} {Q : Value → Shared → Prop} {d : Nat}
    (C : Cx w s.heap) (R : Rm A (d + 1) s.heap) (hcd : codeIn (KF w.params) f.1.code f.1.qualname = true) (hbody : f.1.body = .stmts body) (hclo : f.1.closure = [])
    (hco : f.1.scope.isCoroutine = false) (hgen : f.1.scope.isGenerator = false) (hk : f.1.scope.kind = .function)
    (hb : wpAny (model PW w) A.in1 (bindArgs f.1 args) (fun binds s₁ => Kp s.heap s₁.heap ∧ (∃ t₁, s₁ = { s with heap := s₁.heap, toks := t₁ }) ∧
      (binds.all fun x => f.1.scope.names.lookup x.1 == some .local || (f.1.scope.names.lookup x.1 == some .cell && ((cellsFrom 0 f.1.scope.names []).lookup x.1).isSome)) = true ∧
      ∀ h₁ t₁ E', Bd s₁.heap (envF f s₁.heap.objs.size) (bindL (envF f s₁.heap.objs.size).kindOf binds fun _ => none) (bindC (envF f s₁.heap.objs.size).kindOf binds fun _ => none) h₁ → Rm (A.deeper (envF f s₁.heap.objs.size)) d h₁ → Cx w h₁ →
        wpAny (model PW w) (A.deeper (envF f s₁.heap.objs.size)) (execs body (envF f s₁.heap.objs.size)) (fun f s' => Q (match f with | .ret v => v | _ => .none) s') E' { s with heap := h₁, toks := t₁ }) (fun _ _ => False) s) :
    codeAny (model PW w) A (.call (.ref a) args) (Ends Q E) s := by
  obtain ⟨oc, od, sl, eo⟩ := f.2
  refine enter C R.room (C.k _ _ eo) rfl (codeRec_of C.k hcd) hbody hclo (wpAny_mono hb (fun binds s₁ h₁ => ?_) fun _ _ e => e.elim) hco hgen hk
  obtain ⟨k, ⟨t₁, es⟩, hkind, h⟩ := h₁
  refine ⟨k, fun x hx => ?_, fun h₁ t₁ X => ?_⟩
  · have q := List.all_eq_true.mp hkind x hx
    rcases Bool.or_eq_true_iff.mp q with q | q
    · exact .inl (beq_iff_eq.mp q)
    · obtain ⟨q1, q2⟩ := Bool.and_eq_true_iff.mp q
      exact .inr ⟨beq_iff_eq.mp q1, cells_some _ _ _ _ _ _ id q2⟩
  · rw [es]
    exact h h₁ t₁ _ X (((R.kp k).kp X.keep).deeper hk (X.frame rfl)) (C.up (k.trans X.keep))
omit [Lo] in
/-- a method as a value -/
structure BndOk (w : World) (C : Addr) (name : Str) (f : Addr) : Prop where
  hga : findIn (KF w.params) (.ref C) "__getattribute__" = some (some (.builtin "object.__getattribute__"))
  hk : findIn (KF w.params) (.ref C) "__getattr__" = some none
  hh : hasDictIn (KF w.params) C = true
  ha : findIn (KF w.params) (.ref C) name = some (some (.ref f))
  hg : specialIn (KF w.params) (.ref f) "__get__" = some (some (.builtin "function.__get__"))
  ht : takesIn (KF w.params) (.ref f) = some false
  hf : typeIn (KF w.params) (.ref f) = some (.type "function")
  hc : copiedNames.contains name = false
  hn : fnIn (KF w.params) f = true
omit [Lo] in
theorem b_add (w : World) : BndOk w 222 "add" 172 := ⟨rfl, rfl, rfl, rfl, rfl, rfl, rfl, by decide +kernel, rfl⟩
omit [Lo] in
theorem b_done (w : World) : BndOk w 222 "done" 205 := ⟨rfl, rfl, rfl, rfl, rfl, rfl, rfl, by decide +kernel, rfl⟩
theorem bound_T {x dx C f : Addr} {c : Nat} {m : Str → Option Value} {name : Str} {ex : Bool} {Q : Value → Shared → Prop} (O : BndOk w C name f) (X : Cx w s.heap) (I : IsT s.heap x dx C c m) (hv : m name = none)
    (h : ∀ q h', Kp s.heap h' → s.heap.get? q = none → h'.get? q = some (methodObj (.ref f) (.ref x)) → Q (.ref q) { s with heap := h', toks := s.toks + 1 }) : wpAny (model PW w) A (getAttr (.ref x) name ex) Q E s := by
  obtain ⟨es, n, eD, _, _, hg⟩ := I.own
  exact get_bind X.k (⟨I.at_, rfl, rfl, eD⟩ : InstAt s.heap x { cls := .ref C, dict := some dx, data := .plain, slots := #[] } C (some (dictOf es n))) O.hga (findObj_fn O.hh O.ha O.hg O.ht O.hc (by show lookIn name (dictOf es n) = _; rw [lookIn_dict, hg, hv])) O.hk
    (wpAny_call (fn_get (s := { s with toks := s.toks + 1 }) X.k O.hf (handed_on rfl (h s.heap.objs.size _ (Kp.push _ _) (size_none _) (Heap.get?_push_size _ rfl)))))
omit [Lo] in
/-- a call of a method held as a value, with a star behind -/
theorem callWith_B2 {q g : Addr} {pos : Pos} {env : Env} {self : Value} {e : Expr} {rest : List Expr} {Q : Value → Shared → Prop} (hf : fnIn (KF w.params) g = true)
    (h : wpAny (model PW w) A (spliced (backTo pos (starEach (e :: rest) env))) (fun vs s₁ => MethP (KF w.params) q g self s₁.heap ∧ codeAny (model PW w) A (.call (.ref g) ⟨self :: vs, []⟩) (Ends Q E) s₁) E s)
    (he : starEach (e :: rest) env = (false, eval e env) :: starEach rest env := by rfl) (hst : (backTo pos (starEach rest env)).any (·.1) = true := by rfl) :
    wpAny (model PW w) A (callWith pos (.ref q) [] (backTo pos (starEach (e :: rest) env)) []) Q E s := by
  rw [he] at h ⊢
  refine ks_call (P := MethP (KF w.params) q g self) (by show (false || (backTo pos (starEach rest env)).any (·.1)) = true; rw [hst]; rfl) (keeps_M hf) (evalArgs_plain (wpAny_mono h (fun vs s₁ h₁ => ⟨h₁.1, ?_⟩) fun _ _ x => x))
  exact wpAny_call (method_call h₁.1.1 (codeAny_mono h₁.2 fun r s' z => by rcases r with e | (v | _ | _ | _) <;> exact z))
omit [Lo] in
theorem callWith_B1 {q g : Addr} {pos p : Pos} {env : Env} {self : Value} {e : Expr} {Q : Value → Shared → Prop} (hf : fnIn (KF w.params) g = true)
    (h : wpAny (model PW w) A (eval e env) (fun v s₁ => StarOf (model PW w) A E v (fun vs s₂ => MethP (KF w.params) q g self s₂.heap ∧ codeAny (model PW w) A (.call (.ref g) ⟨self :: vs, []⟩) (Ends Q E) s₂) s₁) E s)
    (he : starEach [.Starred e p] env = [(true, eval e env)] := by rfl) :
    wpAny (model PW w) A (callWith pos (.ref q) [] (backTo pos (starEach [.Starred e p] env)) []) Q E s := by
  rw [he]
  refine ks_call (P := MethP (KF w.params) q g self) rfl (keeps_M hf) (ks_lone (wpAny_mono h (fun v s₁ h₁ => ?_) fun _ _ x => x))
  exact wpAny_mono h₁ (fun b s₂ h₂ => ⟨h₂.1, wpAny_mono h₂.2 (fun vs s₃ h₃ => ⟨h₃.1, wpAny_call (method_call h₃.1.1 (codeAny_mono h₃.2 fun r s' z => by rcases r with e | (v | _ | _ | _) <;> exact z))⟩) fun _ _ x => x⟩) fun _ _ x => x
omit [Lo] in
theorem MethodCallS_ {o : Expr} {name : Str} {apos pos : Pos} {args : List Expr} {env : Env} {Q : Value → Shared → Prop}
    (h : wpAny (model PW w) A (eval o env) (fun ov s₁ => wpAny (model PW w) A (getAttr ov name true) (fun f s₂ => wpAny (model PW w) A (callWith pos f [] (backTo pos (starEach args env)) []) Q E s₂) E s₁) E s)
    (he : eval (.Call (.Attribute o name apos) args [] pos) env = (do
      let ov ← eval o env
      standAt apos.atName
      let (f, first) ← holding [ov] (do pure (← getAttr ov name true, []))
      callWith pos f first (backTo pos (starEach args env)) []) := by rfl) :
    wpAny (model PW w) A (eval (.Call (.Attribute o name apos) args [] pos) env) Q E s := by
  rw [he]
  refine wpAny_bind (wpAny_mono h (fun ov s₁ h₁ => wpAny_bind (wpAny_standAt (wpAny_bind (wpAny_holding (wpAny_bind (wpAny_mono h₁ (fun f s₂ h₂ => wpAny_pure ?_) fun _ _ x => x)))))) fun _ _ x => x)
  exact h₂
end
end

section
open PySem PySem.W PySem.Calls PyProof.Rows PyProof.V
variable [Lo]
/-- _get_nodeinfo, in one -/
theorem c_gni' {w : World} {A : Around} {E : Value → Shared → Prop} {s : Shared} {Q : Value → Shared → Prop} {d : Nat} {h₀ : Heap} (C : Cx w h₀) (R : Rm A (d + 3) h₀) (k : Kp h₀ s.heap) {x dx N : Addr} {c : Nat} {m : Str → Option Value} {g : List Nd} {wd : List Nat} {t : Tok}
    (G : GS w h₀ s.heap x dx N c m g) (hN : m "_node2info" = some (.ref N)) (hlen : g.length ≤ 1000)
    (h : ∀ l n r h' t', n.wd = wd → (l ++ n :: r).map Nd.ab = gniA wd (g.map Nd.ab) → Kp h₀ h' → GS w h₀ h' x dx N c m (l ++ n :: r) → Q (.ref n.a) { s with heap := h', toks := t' }) :
    wpAny (model PW w) A (call (.ref 165) [.ref x, .str (S wd) t]) Q E s := by
  refine c_gni (d := d) C R k G hN hlen (fun n hn e h' t' k' G' => ?_) (fun n h' t' e1 e2 e3 hno k' _ G' => ?_)
  · obtain ⟨l, r, rfl⟩ := ab_split hn
    refine h l n r h' t' e ?_ k' G'
    unfold gniA
    rw [if_pos (List.any_eq_true.mpr ⟨n.ab, List.mem_map.mpr ⟨n, hn, rfl⟩, by rw [beq_iff_eq]; exact e⟩)]
  · refine h g n [] h' t' e1 ?_ k' G'
    unfold gniA
    rw [if_neg]
    · rw [List.map_append]
      have : n.ab = (wd, 0, []) := by unfold Nd.ab; rw [e1, e2, e3]
      rw [List.map_singleton, this]
    · rw [List.any_eq_true]
      rintro ⟨p, hp, q⟩
      obtain ⟨y, hy, rfl⟩ := List.mem_map.mp hp
      rw [beq_iff_eq] at q
      exact hno y hy q
omit [Lo] in
/-- what add makes of the graph -/
def predA (wd : List Nat) (g : List AN) (p : List Nat) : List AN := scA p wd (gniA p g)
omit [Lo] in
def addA (g : List AN) (wd : List Nat) (ps : List (List Nat)) : List AN := ps.foldl (predA wd) (npA wd (· + ps.length) (gniA wd g))
omit [Lo] in
theorem wn_add {g : List AN} {wd : List Nat} {ps : List (List Nat)} (h : WN g) : WN (addA g wd ps) := by
  have : ∀ (ps : List (List Nat)) (g : List AN), WN g → WN (ps.foldl (predA wd) g) := by
    intro ps
    induction ps with
    | nil => exact fun g h => h
    | cons p ps ih => exact fun g h => ih _ (wn_sc (wn_gni h))
  exact this _ _ (wn_np (wn_gni h))
omit [Lo] in
theorem sc_fold (wd : List Nat) (B : Nat) : ∀ (ps : List (List Nat)) (g : List AN), (∀ p ∈ g, p.2.2.length + ps.length ≤ B) → ps.length ≤ B → ∀ p ∈ ps.foldl (predA wd) g, p.2.2.length ≤ B
  | [], g, h, _ => fun p hp => by have := h p hp; simpa using this
  | q :: ps, g, h, hB => by
    rw [List.foldl_cons]
    refine sc_fold wd B ps _ (fun p hp => ?_) (by rw [List.length_cons] at hB; (first | lia | omega))
    unfold predA scA at hp
    obtain ⟨y, hy, e⟩ := List.mem_map.mp hp
    have hy2 : y.2.2.length + (ps.length + 1) ≤ B := by
      unfold gniA at hy
      split at hy
      · exact h y hy
      · rcases List.mem_append.mp hy with hy | hy
        · exact h y hy
        · rw [List.mem_singleton.mp hy]; simpa using hB
    subst e
    split
    · show (y.2.2 ++ [wd]).length + ps.length ≤ B
      rw [List.length_append, List.length_singleton]; (first | lia | omega)
    · (first | lia | omega)
omit [Lo] in
theorem len_fold (wd : List Nat) : ∀ (ps : List (List Nat)) (g : List AN), (ps.foldl (predA wd) g).length ≤ g.length + ps.length
  | [], g => Nat.le_refl _
  | p :: ps, g => by
    have := len_fold wd ps (predA wd g p)
    have h2 : (predA wd g p).length ≤ g.length + 1 := by unfold predA scA; rw [List.length_map]; exact gni_len
    rw [List.foldl_cons, List.length_cons]; (first | lia | omega)
omit [Lo] in
/-- between the turns of add -/
inductive AdJ (w : World) (h₀ h5 : Heap) (x dx N : Addr) (c : Nat) (m : Str → Option Value) (wd : List Nat) (t : Tok) (g5 : List Nd) (ga : List AN) (I : Addr) (m₁ : Str → Option Value) (h : Heap) : Prop
  | mk (a1 : m₁ "self" = some (.ref x)) (a2 : m₁ "node" = some (.str (S wd) t)) (g₁ : List Nd) (G : GS w h₀ h x dx N c m g₁) (hI : I ∉ Zg x dx N g₁) (fz : Fz (Zg x dx N g5) h5 (Zg x dx N g₁)) (eg : g₁.map Nd.ab = ga) : AdJ w h₀ h5 x dx N c m wd t g5 ga I m₁ h
set_option maxHeartbeats 4000000 in
/-- TopologicalSorter.add -/
theorem c_add {w : World} {A : Around} {E : Value → Shared → Prop} {s : Shared} {Q : Value → Shared → Prop} {d : Nat} {h₀ : Heap} (C : Cx w h₀) (R : Rm A (d + 5) h₀) (k : Kp h₀ s.heap) {x dx N : Addr} {c : Nat} {m : Str → Option Value} {g : List Nd} {wd : List Nat} {t : Tok} {vs : List Value} {ps : List (List Nat)}
    (G : GS w h₀ s.heap x dx N c m g) (hN : m "_node2info" = some (.ref N)) (hR : m "_ready_nodes" = some .none) (ma : m "add" = none) (mg : m "_get_nodeinfo" = none) (wn : WN (g.map Nd.ab)) (hlen : g.length + ps.length ≤ 900) (hsc : ∀ p ∈ g.map Nd.ab, p.2.2.length + ps.length ≤ 900) (hv : SV vs ps)
    (h : ∀ g' h' t', g'.map Nd.ab = addA (g.map Nd.ab) wd ps → Kp h₀ h' → GS w h₀ h' x dx N c m g' → Q .none { s with heap := h', toks := t' }) :
    codeAny (model PW w) A (.call (.ref 172) ⟨.ref x :: .str (S wd) t :: vs, []⟩) (Ends Q E) s := by
  have hvl : vs.length = ps.length := hv.length
  refine callGC (f172 w) (d := d + 4) (args := ⟨.ref x :: .str (S wd) t :: vs, []⟩) (C.up k) (R.kp k) (by rfl) (by rfl) (by rfl) (by rfl) (by rfl) (by rfl) ?_
  rw [bind_add]
  refine wpAny_bind (new_tuple (fun ta h1 e1 k1 n1 p1 => wpAny_pure ⟨k1, ⟨_, rfl⟩, by rfl, ?_⟩) (by rw [sizeLine_is]; (first | lia | omega)))
  intro h2 t2 E' X R' C'
  dsimp only at X R' C' ⊢
  have X0 : Bd h₀ _ (upd (upd (upd (fun _ => none) "self" (.ref x)) "node" (.str (S wd) t)) "predecessors" (.ref ta)) (fun _ => none) h2 := X.base (k.trans k1)
  have G2 := (G.kp k1).kp X.keep
  have hta : h₀.get? ta = none := k.none n1
  ktr_unf
  refine Attribute_Name_ ?_
  refine nm_loc X0.ev (by rfl) ?_
  refine own_get (o_rdy w) C' G2.T hR rfl ?_
  ktr_unf
  refine wpAny_isNot_self (by rfl) ?_
  ktr_unf
  first | refine pif_f (by decide) ?_ | refine wif_f (by decide) ?_ | rw [if_neg (by decide)]
  ktr_unf
  refine nm_loc X0.ev (by rfl) ?_
  refine meth_T (m_gni w) C' G2.T mg ?_
  refine callWith_K C'.k (by rfl) ?_
  ktr_unf
  refine nm_loc X0.ev (by rfl) ?_
  ktr_unf
  refine ⟨C'.k, ?_⟩
  have X0w := G2.bd X0
  refine c_gni' (d := d + 1) (X0w.cx C) (X0w.rm (R.mono (by (first | lia | omega)))) wo_kp G2.sub hN (by (first | lia | omega)) fun l n r h3 t3 en eg k3 G3 => ?_
  have X3 := X0w.kp k3
  have G3 := G3.sup X0w.keep
  refine st_loc X3 fun h4 X4 k4 => ?_
  have G4 := G3.ko k4
  have hn4 : n ∈ l ++ n :: r := List.mem_append_right _ List.mem_cons_self
  obtain ⟨tw, tn, I4⟩ := (G4.nd n hn4).at_
  have D4 := (G4.nd n hn4).own
  have hdn : n.d ≠ n.a := fun q => by rw [q, I4] at D4; cases D4
  ktr_unf
  refine wpAny_AugAssign_AttributeAny ?_
  refine nm_loc X4.ev (by rfl) ?_
  refine get_at (s_np w) (X4.cx C) ⟨n.d, I4, D4, hdn⟩ (by rfl) (by rfl) ?_
  ktr_unf
  refine nm_blt (v := .builtin "len") (X4.cx C) (by rfl) rfl ?_
  ktr_unf
  refine nm_loc X4.ev (by rfl) ?_
  ktr_unf
  have hta0 : ta ∉ Zg x dx N g := fun q => by obtain ⟨o, e, _⟩ := G.live _ q; rw [n1] at e; cases e
  have p4 : h4.IsTuple ta vs.toArray := tp_ko (tp_kp (tp_wo (tp_kp p1 X.keep) hta0) k3) k4
  refine len_T p4 (by (first | lia | omega)) fun t' t5 => ?_
  refine i_add fun t'' t6 => ?_
  refine set_at' (s_np w) (X4.cx C) I4 D4 fun h5 I5 s5 => ?_
  rw [put_np] at I5
  have G5 := G4.setNp s5 I5
  have X5 := X4.but s5 (G4.b4 n hn4).1 ⟨_, I4, (fun q => nomatch q), fun q => nomatch q⟩
  have p5 : h5.IsTuple ta vs.toArray := tp_but p4 s5 fun q => by subst q; obtain ⟨o, e, c, _⟩ := p4; rw [I4] at e; cases e; cases c
  have eA : (l ++ { n with np := n.np + (vs.length : Int) } :: r).map Nd.ab = npA wd (· + ps.length) (gniA wd (g.map Nd.ab)) := by
    rw [hvl, np_nd (fun z => z + (ps.length : Int)) (by rw [eg]; exact wn_gni wn), eg, en]
  have wn5 : WN ((l ++ { n with np := n.np + (vs.length : Int) } :: r).map Nd.ab) := by rw [eA]; exact wn_np (wn_gni wn)
  have len5 : ((l ++ { n with np := n.np + (vs.length : Int) } :: r).map Nd.ab).length ≤ g.length + 1 := by
    rw [eA]; unfold npA; rw [List.length_map]; have := gni_len (wd := wd) (g := g.map Nd.ab); rw [List.length_map] at this; exact this
  generalize (l ++ { n with np := n.np + (vs.length : Int) } :: r) = g5 at G5 eA wn5 len5
  ktr_unf
  refine for_rule2 (h₀ := h₀) (binds_loc (by rfl) (by rfl)) ?_
  refine nm_loc X5.ev (by rfl) ?_
  refine ⟨_, _, _, _, _, Zg x dx N g5, fun I i m₁ cm₁ h => AdJ w h₀ h5 x dx N c m wd t g5 ((ps.take i).foldl (predA wd) (g5.map Nd.ab)) I m₁ h,
    X5, src_tuple (X5.rm R).hd p5, ?_, ?_, ⟨rfl, rfl, g5, G5, ?_, fz_self, rfl⟩, ?_, ?_⟩
  · intro z hz
    refine ⟨fun q => ?_, let ⟨o, e, _⟩ := G5.live z hz; ⟨o, e⟩⟩
    rw [List.mem_singleton] at q
    subst q
    obtain ⟨o, e, cT, _⟩ := p5
    rcases zg_mem.mp hz with q | q | q | ⟨n', hn', q | q | q⟩
    · rw [q, G5.T.at_] at e; cases e; cases cT
    · obtain ⟨es, nn, e', _⟩ := G5.T.own; rw [q, e'] at e; cases e; exact cn _ _ (by decide) cT
    · obtain ⟨o', e', cD⟩ := DK.obj G5.D; rw [q, e'] at e; cases e; rw [cD] at cT; exact cn _ _ (by decide) cT
    · obtain ⟨_, _, e'⟩ := (G5.nd n' hn').at_; rw [q, e'] at e; cases e; cases cT
    · have e' := (G5.nd n' hn').own; rw [q, e'] at e; cases e; exact cn _ _ (by decide) cT
    · obtain ⟨_, ⟨_, e'⟩, _⟩ := (G5.nd n' hn').succ; rw [q, e'] at e; cases e; exact cn _ _ (by decide) cT
  · rintro I i m₁ cm₁ h h' k ⟨a1, a2, g₁, b1, b2, b3, b4⟩
    exact ⟨a1, a2, g₁, b1.toZ fun b o hb n1 n2 e => k b o (fun q => b2 (q ▸ hb)) e n1 n2, b2, b3, b4⟩
  · intro q; obtain ⟨o, e, _⟩ := G5.live _ q; rw [size_none] at e; cases e
  · rintro I i v m₁ cm₁ s₂ E'' hi hvi hI ⟨oI, hIl, nI1, nI2⟩ X6 k6 ⟨hs, hnd, g₁, G6, hI6, fz6, eg6⟩
    refine cutQ fun P₀ hP₀ => ?_
    obtain ⟨p, tp, hpi, rfl⟩ := hv.get hvi
    have C6 := X6.cx C
    have wn6 : WN (g₁.map Nd.ab) := by
      rw [eg6]
      exact (fun (l : List (List Nat)) => (show ∀ g : List AN, WN g → WN (l.foldl (predA wd) g) from by
        induction l with
        | nil => exact fun g h => h
        | cons p ps ih => exact fun g h => ih _ (wn_sc (wn_gni h)))) _ _ wn5
    have len6 : g₁.length ≤ 1000 := by
      have := congrArg List.length eg6
      rw [List.length_map] at this
      have h2 := len_fold wd (ps.take i) (g5.map Nd.ab)
      have h3 : (ps.take i).length ≤ ps.length := by rw [List.length_take]; (first | lia | omega)
      (first | lia | omega)
    ktr_unf
    refine nm_loc X6.ev (by exact hs) ?_
    refine meth_T (m_gni w) C6 G6.T mg ?_
    refine callWith_K C6.k (by rfl) ?_
    ktr_unf
    refine nm_loc X6.ev (by rfl) ?_
    ktr_unf
    refine ⟨C6.k, ?_⟩
    have X6w := G6.bd X6
    refine c_gni' (d := d + 1) (X6w.cx C) (X6w.rm (R.mono (by (first | lia | omega)))) wo_kp G6.sub hN len6 fun l n r h7 t7 en eg k7 G7 => ?_
    have X7 := X6w.kp k7
    have z7 : ∀ b ∈ Zg x dx N (l ++ n :: r), (wo (Zg x dx N g₁) s₂.heap).get? b = none := G7.z
    have I7 : h7.get? I = some oI := k7.off _ _ ((wo_get hI6).trans hIl) nI1
    have nI7 : I ∉ Zg x dx N (l ++ n :: r) := fun q => by have := z7 _ q; rw [wo_get hI6, hIl] at this; cases this
    have K7 := kz_wo k6 fz6 k7
    have F7 := fz_wo k6 fz6 z7
    have G7 := G7.sup X6w.keep
    refine st_loc X7 fun h8 X8 k8 => ?_
    have G8 := G7.ko k8
    have K8 := K7.trans (k8.z _)
    have I8 := k8 _ _ I7 nI1 nI2
    have hn8 : n ∈ l ++ n :: r := List.mem_append_right _ List.mem_cons_self
    obtain ⟨tw, tn, J8⟩ := (G8.nd n hn8).at_
    have D8 := (G8.nd n hn8).own
    have hdn : n.d ≠ n.a := fun q => by rw [q, J8] at D8; cases D8
    obtain ⟨us, p8, sv8⟩ := (G8.nd n hn8).succ
    have C8 := X8.cx C
    ktr_unf
    refine wpAny_Expr_any ?_
    ktr_unf
    refine Attribute_Name_ ?_
    refine nm_loc X8.ev (by rfl) ?_
    refine get_at (s_succ w) C8 ⟨n.d, J8, D8, hdn⟩ (by rfl) (by rfl) ?_
    refine meth_L PySem.F.slot_list_append PySem.F.type_list_append p8 ?_
    ktr_unf
    refine nm_loc X8.ev (by exact hnd) ?_
    ktr_unf
    have hul : us.length ≤ 100000 := by
      have h1 : (n.ab).2.2.length ≤ 900 := by
        have hm : n.ab ∈ gniA p (g₁.map Nd.ab) := eg ▸ List.mem_map.mpr ⟨n, hn8, rfl⟩
        have hz : ∀ p ∈ g₁.map Nd.ab, p.2.2.length ≤ 900 := by
          rw [eg6]
          refine sc_fold wd 900 _ _ (fun p hp => ?_) (by rw [List.length_take]; (first | lia | omega))
          rw [eA] at hp
          have : (ps.take i).length ≤ ps.length := by rw [List.length_take]; (first | lia | omega)
          unfold npA at hp
          obtain ⟨y, hy, e⟩ := List.mem_map.mp hp
          have hy2 : y.2.2.length + ps.length ≤ 900 := by
            unfold gniA at hy
            split at hy
            · exact hsc y hy
            · rcases List.mem_append.mp hy with hy | hy
              · exact hsc y hy
              · rw [List.mem_singleton.mp hy]; simp; (first | lia | omega)
          subst e
          split
          · show y.2.2.length + _ ≤ _; (first | lia | omega)
          · (first | lia | omega)
        unfold gniA at hm
        split at hm
        · exact hz _ hm
        · rcases List.mem_append.mp hm with hm | hm
          · exact hz _ hm
          · rw [List.mem_singleton.mp hm]; simp
      have h2 : us.length = n.sc.length := sv8.length
      have h1 : n.sc.length ≤ 900 := h1
      (first | lia | omega)
    refine app_L p8 hul fun h9 p9 s9 => ?_
    ktr_unf
    have uz : n.u ∈ Zg x dx N (l ++ n :: r) := zg_mem.mpr (.inr (.inr (.inr ⟨n, hn8, .inr (.inr rfl)⟩)))
    have zsc : Zg x dx N (l ++ { n with sc := n.sc ++ [wd] } :: r) = Zg x dx N (l ++ n :: r) := by simp [Zg]
    have G9 := G8.setSc (sc := n.sc ++ [wd]) s9 ⟨_, p9, sv8.snoc⟩
    have X9 := X8.but s9 (G8.b4 n hn8).2.2 (let ⟨_, e⟩ := p8; ⟨_, e, cn _ _ (by decide), cn _ _ (by decide)⟩)
    refine ⟨h9, _, _, _, rfl, X9, ⟨kz_but K8 (F7.sub fun b hb => by rw [List.mem_singleton.mp hb]; exact uz) s9, fun o e => ?_⟩, hs, hnd, _, G9, ?_, ?_, ?_⟩
    · rw [hIl] at e; cases e
      exact s9.extBut _ _ (fun q => nI7 (q ▸ uz)) I8
    · rw [zsc]; exact nI7
    · rw [zsc]; exact F7
    · have wn8 : WN ((l ++ n :: r).map Nd.ab) := by rw [eg]; exact wn_gni wn6
      rw [sc_nd wd wn8, eg, en, eg6, take_snoc hpi, List.foldl_append]
      rfl
  · rintro I m₁ cm₁ h6 t6 hI X6 k6 ⟨hs, hnd, g₁, G6, hI6, fz6, eg6⟩
    ktr_unf
    refine h g₁ _ _ ?_ X6.keep G6
    rw [eg6, hvl, List.take_length, eA]
    rfl
end

section
open PySem PySem.W PySem.Calls PyProof.Rows PyProof.V
variable [Lo]
section
variable {w : World} {A : Around} {E : Value → Shared → Prop} {s : Shared}
/-- as callC, the binding a walk of its own -/
theorem callB {a : Addr} (f : Fn w a) {body : List Stmt} {vals : List Value} {Q : Value → Shared → Prop} {d : Nat} (binds : List (Str × Value)) (m cm : Str → Option Value)
    (C : Cx w s.heap) (R : Rm A (d + 1) s.heap) (hcd : codeIn (KF w.params) f.1.code f.1.qualname = true) (hbody : f.1.body = .stmts body) (hclo : f.1.closure = [])
    (hco : f.1.scope.isCoroutine = false) (hgen : f.1.scope.isGenerator = false) (hk : f.1.scope.kind = .function)
    (hbind : ∀ (A' : Around) (E' : Value → Shared → Prop) (P : List (Str × Value) → Shared → Prop), P binds s → wpAny (model PW w) A' (bindArgs f.1 ⟨vals, []⟩) P E' s) (hm : ∀ L, bindL (envF f L).kindOf binds (fun _ => none) = m) (hcm : ∀ L, bindC (envF f L).kindOf binds (fun _ => none) = cm)
    (hkind : (binds.all fun x => f.1.scope.names.lookup x.1 == some .local || (f.1.scope.names.lookup x.1 == some .cell && ((cellsFrom 0 f.1.scope.names []).lookup x.1).isSome)) = true)
    (h : ∀ L h₁ t₁, Bd s.heap (envF f L) m cm h₁ → Rm (A.deeper (envF f L)) d h₁ → Cx w h₁ →
        wpAny (model PW w) (A.deeper (envF f L)) (execs body (envF f L)) (fun f s' => Q (match f with | .ret v => v | _ => .none) s')
          (fun e s' => wpAny (model PW w) (A.deeper (envF f L)) (leaving (envF f L) e) (fun _ s'' => E e s'') (fun e' s'' => E e' s'') s') { s with heap := h₁, toks := t₁ }) :
    codeAny (model PW w) A (.call (.ref a) ⟨vals, []⟩) (Ends Q E) s := by
  obtain ⟨oc, od, sl, eo⟩ := f.2
  refine enter C R.room (C.k _ _ eo) rfl (codeRec_of C.k hcd) hbody hclo (hbind _ _ _ ⟨Kp.refl _, fun x hx => ?_, fun h₁ t₁ X => ?_⟩) hco hgen hk
  · have q := List.all_eq_true.mp hkind x hx
    rcases Bool.or_eq_true_iff.mp q with q | q
    · exact .inl (beq_iff_eq.mp q)
    · obtain ⟨q1, q2⟩ := Bool.and_eq_true_iff.mp q
      exact .inr ⟨beq_iff_eq.mp q1, cells_some _ _ _ _ _ _ id q2⟩
  · rw [hm, hcm] at X
    exact h _ h₁ t₁ X ((R.kp X.keep).deeper hk (X.frame rfl)) (C.up X.keep)
end
omit [Lo] in
abbrev mT0 (N : Addr) (t u : Tok) : Str → Option Value := upd (upd (upd (upd (fun _ => none) "_node2info" (.ref N)) "_ready_nodes" .none) "_npassedout" (.int 0 t)) "_nfinished" (.int 0 u)
set_option maxHeartbeats 4000000 in
/-- TopologicalSorter.__init__ -/
theorem c_ts_init {w : World} {A : Around} {E : Value → Shared → Prop} {s : Shared} {Q : Value → Shared → Prop} {d : Nat} {h₀ : Heap} (C : Cx w h₀) (R : Rm A (d + 1) h₀) (k : Kp h₀ s.heap) {x dx : Addr} (hn : h₀.get? x = none) (hn2 : h₀.get? dx = none)
    (e1 : s.heap.get? x = some { cls := .ref 222, dict := some dx, data := .plain, slots := #[] }) (e2 : s.heap.get? dx = some emptyDict) (hda : dx ≠ x)
    (h : ∀ h' t' N t1 t2, Kp h₀ h' → GS w h₀ h' x dx N 4 (mT0 N t1 t2) [] → Q .none { s with heap := h', toks := t' }) :
    codeAny (model PW w) A (.call (.ref 158) ⟨[.ref x], []⟩) (Ends Q E) s := by
  refine' callB (f158 w) (d := d) [("self", .ref x), ("graph", .none)] (upd (upd (fun _ => none) "self" (.ref x)) "graph" .none) (fun _ => none) (C.up k) (R.kp k) ?h2 ?h3 ?h4 ?h5 ?h6 ?h7 ?h8 ?h9 ?h10 ?h11 ?_
  case h2 => rfl
  case h3 => rfl
  case h4 => rfl
  case h5 => rfl
  case h6 => rfl
  case h7 => rfl
  case h8 => exact fun A' E' P h => bind_init (C.up k) h
  case h9 => intro _; rfl
  case h10 => intro _; rfl
  case h11 => rfl
  intro L h₁ t₁ X R' C'
  have X0 := X.base k
  have I0 : IsT h₁ x dx 222 0 (fun _ => none) := ⟨X.keep.off _ _ e1 (fun q => nomatch q), hda, [], 0, X.keep.off _ _ e2 (cn _ _ (by decide)), Nat.le_refl _, rfl, fun _ => rfl⟩
  have live : ∀ {h : Heap} {c m}, IsT h x dx 222 c m → ∃ o, h.get? dx = some o ∧ o.cls ≠ .type "frame" ∧ o.cls ≠ .type "cell" := fun i => let ⟨es, n, e, _⟩ := i.own; ⟨_, e, cn _ _ (by decide), cn _ _ (by decide)⟩
  ktr_unf
  refine plainObj_wpAny_Assign_Attribute ?_
  ktr_unf
  refine wpAny_Dict_empty ?_
  generalize hN : h₁.objs.size = N
  have k2 : Kp h₁ (h₁.push { cls := .type "dict", data := .dict #[] }) := Kp.push _ _
  have D2 : DK w (h₁.push { cls := .type "dict", data := .dict #[] }) N [] := by rw [← hN]; exact Heap.DictOf.new _
  have nN : h₁.get? N = none := by rw [← hN]; exact size_none _
  have hsy : (N == sysModules) = false := by
    have := modules_low C'.l
    rw [hN] at this
    rw [beq_eq_false_iff_ne]; exact Nat.ne_of_gt this
  generalize (h₁.push { cls := .type "dict", data := .dict #[] }) = h2 at k2 D2
  have X2 := X0.kp k2
  have I2 := I0.kp k2
  have nNd : N ≠ dx := fun q => by obtain ⟨_, e, _⟩ := live I0; rw [← q, nN] at e; cases e
  have nN0 : h₀.get? N = none := X0.keep.none nN
  ktr_unf
  refine nm_loc X2.ev (by rfl) ?_
  refine own_store (o_n2i w) (X2.cx C) I2 (by decide) fun h3 I3 s3 => ?_
  have I3 : IsT h3 x dx 222 1 _ := I3
  have X3 := X2.but s3 hn2 (live I2)
  have D3 : DK w h3 N [] := by obtain ⟨o, es, ep, e, r⟩ := D2; exact ⟨o, es, ep, s3.extBut _ _ nNd e, r⟩
  ktr_unf
  refine plainObj_wpAny_Assign_Attribute ?_
  ktr_unf
  refine nm_loc X3.ev (by rfl) ?_
  refine own_store (o_rdy w) (X3.cx C) I3 (by decide) fun h4 I4 s4 => ?_
  have I4 : IsT h4 x dx 222 2 _ := I4
  have X4 := X3.but s4 hn2 (live I3)
  have D4 : DK w h4 N [] := by obtain ⟨o, es, ep, e, r⟩ := D3; exact ⟨o, es, ep, s4.extBut _ _ nNd e, r⟩
  ktr_unf
  refine plainObj_wpAny_Assign_Attribute ?_
  ktr_unf
  refine nm_loc X4.ev (by rfl) ?_
  refine own_store (o_npo w) (X4.cx C) I4 (by decide) fun h5 I5 s5 => ?_
  have I5 : IsT h5 x dx 222 3 _ := I5
  have X5 := X4.but s5 hn2 (live I4)
  have D5 : DK w h5 N [] := by obtain ⟨o, es, ep, e, r⟩ := D4; exact ⟨o, es, ep, s5.extBut _ _ nNd e, r⟩
  ktr_unf
  refine plainObj_wpAny_Assign_Attribute ?_
  ktr_unf
  refine nm_loc X5.ev (by rfl) ?_
  refine own_store (o_nfi w) (X5.cx C) I5 (by decide) fun h6 I6 s6 => ?_
  have I6 : IsT h6 x dx 222 4 _ := I6
  have X6 := X5.but s6 hn2 (live I5)
  have D6 : DK w h6 N [] := by obtain ⟨o, es, ep, e, r⟩ := D5; exact ⟨o, es, ep, s6.extBut _ _ nNd e, r⟩
  ktr_unf
  refine nm_loc X6.ev (by rfl) ?_
  ktr_unf
  refine wpAny_isNot_self (by rfl) ?_
  ktr_unf
  first | refine pif_f (by decide) ?_ | refine wif_f (by decide) ?_ | rw [if_neg (by decide)]
  ktr_unf
  exact h h6 _ N _ _ X6.keep ⟨I6, D6, (fun _ q => nomatch q), List.nodup_nil, List.nodup_nil, nNd, hsy, (fun _ q => nomatch q), hn, hn2, nN0, (fun _ q => nomatch q)⟩
end

section
open PySem PySem.W PySem.Calls PyProof.Rows PyProof.V
variable [Lo]
section
omit [Lo] in
theorem meets_bool_L (l : Addr) (vs : List Value) (hz : vs.length ≤ 100000) : Meets (Builtin.«bool.__new__» ⟨[.type "bool", .ref l], []⟩) (fun A R s => s.heap.PlainList l vs.toArray ∧ R (.ok (.ret (.bool (decide (vs ≠ []))))) { s with toks := s.toks + 1 + 1 }) :=
  Meets.of_wp fun prog w A R s hs => by
    obtain ⟨hp, g, d, tk, os⟩ := s
    obtain ⟨hl, hs⟩ := hs
    have f1 := F.conv_sub_bool
    have e : (!vs.toArray.isEmpty) = decide (vs ≠ []) := by cases vs <;> simp
    repeat (any_goals (first | assumption | (with_reducible refine wpAny_truthy_list hl.isList (by rw [List.size_toArray]; (first | lia | omega)) ?_) | wp_step))
    all_goals exact ⟨_, rfl, by rw [e]; exact hs⟩
variable {w : World} {A : Around} {E : Value → Shared → Prop} {s : Shared}
omit [Lo] in
theorem bool_L {l : Addr} {vs : List Value} {Q : Value → Shared → Prop} (hl : s.heap.PlainList l vs.toArray) (hz : vs.length ≤ 100000) (h : ∀ k, Q (.bool (decide (vs ≠ []))) { s with toks := k }) : wpAny (model PW w) A (call (.type "bool") [.ref l]) Q E s :=
  call_bool_1 (meets_bool_L l vs hz) ⟨hl, rfl, h _⟩
theorem tuple_L {l : Addr} {vs : List Value} {Q : Value → Shared → Prop} (hl : s.heap.PlainList l vs.toArray) (hz : vs.length ≤ 100000) (h : ∀ a h', Kp s.heap h' → s.heap.get? a = none → h'.IsTuple a vs.toArray → Q (.ref a) { s with heap := h' }) : wpAny (model PW w) A (call (.type "tuple") [.ref l]) Q E s :=
  call_tuple_list hl.isList (fun h' k => h _ _ ((Kp.of k).trans (Kp.push _ _)) ((Kp.of k).none (size_none h')) ⟨_, Heap.get?_push_size _ rfl, rfl, _, rfl⟩) (by rw [List.size_toArray, sizeLine_is]; (first | lia | omega))
omit [Lo] in
theorem clear_L {l : Addr} {vs : List Value} {Q : Value → Shared → Prop} (hl : s.heap.PlainList l vs.toArray) (hz : vs.length ≤ 100000) (h : ∀ h' k, h'.PlainList l (#[] : Array Value) → Heap.SameBut l s.heap h' → Q .none { s with heap := h', toks := k }) : wpAny (model PW w) A (call (.builtin "list.clear") [.ref l]) Q E s := by
  obtain ⟨n, e⟩ := hl
  refine call_meets PySem.F.slot_list_clear ⟨_, e, rfl⟩ PySem.F.entry_list_clear (PySem.F.args_list_clear_1 _) (PySem.AutoSeq1.list_clear_list_0 l _ n (by rw [List.size_toArray, sizeLine_is]; (first | lia | omega))) ⟨e, h _ _ ?_ (Heap.SameBut.update ..)⟩
  obtain ⟨n', hn⟩ : ∃ n', Obj.mapSeq (fun _ => #[]) { cls := .type "list", data := .seq vs.toArray n } = { cls := .type "list", data := .seq #[] n' } := ⟨_, rfl⟩
  exact ⟨n', by rw [Heap.get?_update_self _ e (by rw [hn]; rfl), hn]⟩
end
omit [Lo] in
/-- the sorter's own names -/
structure MT (m : Str → Option Value) (N : Addr) (r : Value) (p q : Int) : Prop where
  n : m "_node2info" = some (.ref N)
  r : m "_ready_nodes" = some r
  p : ∃ t, m "_npassedout" = some (.int p t)
  q : ∃ t, m "_nfinished" = some (.int q t)
  me : ∀ y ∈ ([("add" : Str), "prepare", "is_active", "get_ready", "done", "_find_cycle", "_get_nodeinfo"] : List Str), m y = none
omit [Lo] in
theorem MT.setR {m : Str → Option Value} {N : Addr} {r r' : Value} {p q : Int} (x : MT m N r p q) : MT (upd m "_ready_nodes" r') N r' p q :=
  ⟨x.n, by simp [upd], let ⟨t, e⟩ := x.p; ⟨t, e⟩, let ⟨t, e⟩ := x.q; ⟨t, e⟩, fun y hy => by
    have : y ≠ "_ready_nodes" := by rintro rfl; revert hy; decide
    simpa [upd, this] using x.me y hy⟩
omit [Lo] in
theorem MT.setP {m : Str → Option Value} {N : Addr} {r : Value} {p p' q : Int} {t : Tok} (x : MT m N r p q) : MT (upd m "_npassedout" (.int p' t)) N r p' q :=
  ⟨x.n, x.r, ⟨t, by simp [upd]⟩, let ⟨t, e⟩ := x.q; ⟨t, e⟩, fun y hy => by
    have : y ≠ "_npassedout" := by rintro rfl; revert hy; decide
    simpa [upd, this] using x.me y hy⟩
omit [Lo] in
theorem MT.setQ {m : Str → Option Value} {N : Addr} {r : Value} {p q q' : Int} {t : Tok} (x : MT m N r p q) : MT (upd m "_nfinished" (.int q' t)) N r p q' :=
  ⟨x.n, x.r, let ⟨t, e⟩ := x.p; ⟨t, e⟩, ⟨t, by simp [upd]⟩, fun y hy => by
    have : y ≠ "_nfinished" := by rintro rfl; revert hy; decide
    simpa [upd, this] using x.me y hy⟩
omit [Lo] in
theorem MT0 (N : Addr) (t u : Tok) : MT (mT0 N t u) N .none 0 0 := ⟨by rfl, by rfl, ⟨t, by rfl⟩, ⟨u, by rfl⟩, fun y hy => by
  rcases List.mem_cons.mp hy with rfl | hy
  · rfl
  rcases List.mem_cons.mp hy with rfl | hy
  · rfl
  rcases List.mem_cons.mp hy with rfl | hy
  · rfl
  rcases List.mem_cons.mp hy with rfl | hy
  · rfl
  rcases List.mem_cons.mp hy with rfl | hy
  · rfl
  rcases List.mem_cons.mp hy with rfl | hy
  · rfl
  rcases List.mem_cons.mp hy with rfl | hy
  · rfl
  · cases hy⟩
omit [Lo] in
/-- the sorter behind prepare -/
structure TS (w : World) (h₀ h : Heap) (x dx N Rl : Addr) (m : Str → Option Value) (p q : Int) (rdy : List (List Nat)) (g : List Nd) : Prop where
  M : MT m N (.ref Rl) p q
  G : GS w h₀ h x dx N 4 m g
  L : WL h Rl rdy
  u : Rl ∉ g.map Nd.u
  n : h₀.get? Rl = none
omit [Lo] in
def Zt (x dx N Rl : Addr) (g : List Nd) : List Addr := Rl :: Zg x dx N g
section
variable {w : World} {h₀ h h' H : Heap} {x dx N Rl : Addr} {m : Str → Option Value} {p q : Int} {rdy : List (List Nat)} {g : List Nd}
theorem TS.kp (T : TS w h₀ h x dx N Rl m p q rdy g) (k : Kp h h') : TS w h₀ h' x dx N Rl m p q rdy g := ⟨T.M, T.G.kp k, T.L.kp k, T.u, T.n⟩
omit [Lo] in
theorem TS.ko (T : TS w h₀ h x dx N Rl m p q rdy g) (k : Ko h h') : TS w h₀ h' x dx N Rl m p q rdy g := ⟨T.M, T.G.ko k, T.L.ko k, T.u, T.n⟩
omit [Lo] in
theorem TS.toZ (T : TS w h₀ h x dx N Rl m p q rdy g) (k : ∀ b o, b ∈ Zt x dx N Rl g → o.cls ≠ .type "frame" → o.cls ≠ .type "cell" → h.get? b = some o → h'.get? b = some o) : TS w h₀ h' x dx N Rl m p q rdy g :=
  ⟨T.M, T.G.toZ fun b o hb => k b o (List.mem_cons_of_mem _ hb), let ⟨vs, ⟨n, e⟩, r⟩ := T.L; ⟨vs, ⟨n, k _ _ List.mem_cons_self (cn _ _ (by decide)) (cn _ _ (by decide)) e⟩, r⟩, T.u, T.n⟩
omit [Lo] in
theorem TS.z (T : TS w h₀ h x dx N Rl m p q rdy g) : ∀ z ∈ Zt x dx N Rl g, h₀.get? z = none := fun z hz => (List.mem_cons.mp hz).elim (fun e => e ▸ T.n) (T.G.z z)
omit [Lo] in
theorem TS.live (T : TS w h₀ h x dx N Rl m p q rdy g) : ∀ z ∈ Zt x dx N Rl g, ∃ o, h.get? z = some o ∧ o.cls ≠ .type "frame" ∧ o.cls ≠ .type "cell" := fun z hz =>
  (List.mem_cons.mp hz).elim (fun e => let ⟨vs, ⟨n, e'⟩, _⟩ := T.L; ⟨_, e ▸ e', cn _ _ (by decide), cn _ _ (by decide)⟩) (T.G.live z)
omit [Lo] in
theorem TS.sub (T : TS w h₀ h x dx N Rl m p q rdy g) : TS w (wo (Zt x dx N Rl g) h) h x dx N Rl m p q rdy g :=
  ⟨T.M, T.G.base fun b _ hb => wo_none (List.mem_cons_of_mem _ (zg_mem.mpr hb)), T.L, T.u, wo_none List.mem_cons_self⟩
theorem TS.sup (T : TS w H h x dx N Rl m p q rdy g) (k : Kp h₀ H) : TS w h₀ h x dx N Rl m p q rdy g := ⟨T.M, T.G.sup k, T.L, T.u, k.none T.n⟩
theorem TS.bd {env : Env} {mm cm : Str → Option Value} (T : TS w h₀ h x dx N Rl m p q rdy g) (X : Bd h₀ env mm cm h) : Bd h₀ env mm cm (wo (Zt x dx N Rl g) h) := X.woZ T.live T.z
omit [Lo] in
/-- the list of the ready changes -/
theorem TS.setL {rdy' : List (List Nat)} (T : TS w h₀ h x dx N Rl m p q rdy g) (s : Heap.SameBut Rl h h') (L : WL h' Rl rdy') : TS w h₀ h' x dx N Rl m p q rdy' g := by
  obtain ⟨vs, ⟨n, e⟩, _⟩ := T.L
  exact ⟨T.M, T.G.lst s ⟨_, e, rfl⟩ T.u, L, T.u, T.n⟩
omit [Lo] in
theorem TS.noL (T : TS w h₀ h x dx N Rl m p q rdy g) {b : Addr} {o : Obj} (e : h.get? b = some o) (c : o.cls ≠ .type "list") : b ≠ Rl := by
  rintro rfl; obtain ⟨vs, ⟨n, e'⟩, _⟩ := T.L; rw [e] at e'; cases e'; exact c rfl
omit [Lo] in
/-- a count changes -/
theorem TS.setNp {l r : List Nd} {n : Nd} {k : Int} {t tn : Tok} (T : TS w h₀ h x dx N Rl m p q rdy (l ++ n :: r)) (s : Heap.SameBut n.a h h')
    (e1 : h'.get? n.a = some { cls := .ref 125, dict := some n.d, data := .plain, slots := #[some (.str (S n.wd) t), some (.int k tn), some (.ref n.u)] }) : TS w h₀ h' x dx N Rl m p q rdy (l ++ { n with np := k } :: r) := by
  obtain ⟨_, _, e0⟩ := (T.G.nd n (List.mem_append_right _ List.mem_cons_self)).at_
  have ne := T.noL e0 (fun q => nomatch q)
  refine ⟨T.M, T.G.setNp s e1, let ⟨vs, ⟨nn, e⟩, r⟩ := T.L; ⟨vs, ⟨nn, s.extBut _ _ (Ne.symm ne) e⟩, r⟩, ?_, T.n⟩
  have := T.u
  simpa using this
omit [Lo] in
/-- a field changes -/
theorem TS.setF {m' : Str → Option Value} {p' q' : Int} (T : TS w h₀ h x dx N Rl m p q rdy g) (s : Heap.SameBut dx h h') (T' : IsT h' x dx 222 4 m') (M' : MT m' N (.ref Rl) p' q') : TS w h₀ h' x dx N Rl m' p' q' rdy g := by
  obtain ⟨es, nn, e0, _⟩ := T.G.T.own
  have ne := T.noL e0 (cn _ _ (by decide))
  exact ⟨M', T.G.setT s T', let ⟨vs, ⟨nn, e⟩, r⟩ := T.L; ⟨vs, ⟨nn, s.extBut _ _ (Ne.symm ne) e⟩, r⟩, T.u, T.n⟩
end
end

section
open PySem PySem.W PySem.Calls PyProof.Rows PyProof.V
variable [Lo]
omit [Lo] in
noncomputable def f191 (w : World) : Fn w 191 := ⟨_, _, _, _, rfl⟩
set_option maxHeartbeats 4000000 in
/-- is_active -/
theorem c_act {w : World} {A : Around} {E : Value → Shared → Prop} {s : Shared} {Q : Value → Shared → Prop} {d : Nat} {h₀ : Heap} (C : Cx w s.heap) (R : Rm A (d + 2) s.heap) {x dx N Rl : Addr} {m : Str → Option Value} {p q : Int} {rdy : List (List Nat)} {g : List Nd}
    (T : TS w h₀ s.heap x dx N Rl m p q rdy g) (hl : rdy.length ≤ 1000)
    (h : ∀ h' t', Kp s.heap h' → Q (.bool (decide (q < p) || decide (rdy ≠ []))) { s with heap := h', toks := t' }) :
    wpAny (model PW w) A (call (.ref 191) [.ref x]) Q E s := by
  refine' callK (f191 w) (d := d + 1) [("self", .ref x)] (upd (fun _ => none) "self" (.ref x)) (fun _ => none) C R ?h2 ?h3 ?h4 ?h5 ?h6 ?h7 ?h8 ?h9 ?h10 ?h11 ?_
  case h2 => rfl
  case h3 => rfl
  case h4 => rfl
  case h5 => rfl
  case h6 => rfl
  case h7 => rfl
  case h8 => rfl
  case h9 => intro _; rfl
  case h10 => intro _; rfl
  case h11 => rfl
  intro L h₁ t₁ E' X R' C'
  refine cutQ fun P₀ hP₀ => ?_
  have T1 := T.kp X.keep
  obtain ⟨vs, pl, sv⟩ := T1.L
  have hvl : vs.length = rdy.length := sv.length
  obtain ⟨tp, ep⟩ := T1.M.p
  obtain ⟨tq, eq⟩ := T1.M.q
  ktr_unf
  refine Attribute_Name_ ?_
  refine nm_loc X.ev (by rfl) ?_
  refine own_get (o_rdy w) C' T1.G.T T1.M.r rfl ?_
  ktr_unf
  refine wpAny_is_other (by rfl) (fun e => nomatch e) ?_
  ktr_unf
  first | refine pif_f (by decide) ?_ | refine wif_f (by decide) ?_ | rw [if_neg (by decide)]
  ktr_unf
  refine Attribute_Name_ ?_
  refine nm_loc X.ev (by rfl) ?_
  refine own_get (o_nfi w) C' T1.G.T eq rfl ?_
  ktr_unf
  refine Attribute_Name_ ?_
  refine nm_loc X.ev (by rfl) ?_
  refine own_get (o_npo w) C' T1.G.T ep rfl ?_
  ktr_unf
  have fin : ∀ t', Q (.bool (decide (q < p) || decide (rdy ≠ []))) { s with heap := h₁, toks := t' } := fun t' => h _ _ X.keep
  split
  · ktr_unf
    rename_i hq; rw [hq] at fin ⊢; exact fin _
  · rename_i hq
    have hq : decide (q < p) = false := by simpa using hq
    rw [hq] at fin
    refine BoolOp_one ?_
    ktr_unf
    refine nm_blt (v := .type "bool") C' (by rfl) rfl ?_
    ktr_unf
    refine Attribute_Name_ ?_
    refine nm_loc X.ev (by rfl) ?_
    refine own_get (o_rdy w) C' T1.G.T T1.M.r rfl ?_
    ktr_unf
    refine bool_L pl (by (first | lia | omega)) fun k => ?_
    have e : decide (vs ≠ []) = decide (rdy ≠ []) := by
      cases vs <;> cases rdy <;> first | rfl | (simp at hvl)
    rw [e]
    ktr_unf
    exact fin _
omit [Lo] in
/-- what get_ready makes of the graph -/
def outA (g : List AN) (ws : List (List Nat)) : List AN := ws.foldl (fun g wd => npA wd (fun _ => -1) g) g
omit [Lo] in
theorem wn_out {g : List AN} (h : WN g) : ∀ ws, WN (outA g ws) := by
  intro ws
  induction ws generalizing g with
  | nil => exact h
  | cons a ws ih => exact ih (wn_np h)
omit [Lo] in
theorem fst_out {g : List AN} : ∀ ws, (outA g ws).map (·.1) = g.map (·.1) := by
  intro ws
  induction ws generalizing g with
  | nil => rfl
  | cons a ws ih => exact ih.trans np_fst
omit [Lo] in
theorem ab_wd (g : List Nd) : (g.map Nd.ab).map (·.1) = g.map Nd.wd := by rw [List.map_map]; rfl
omit [Lo] in
/-- the node of a word -/
theorem val_at {wd : List Nat} {g : List Nd} (h : wd ∈ g.map Nd.wd) : ∃ l n r, g = l ++ n :: r ∧ n.wd = wd ∧ valueAt (g.map fun n => (S n.wd, Value.ref n.a)) (S wd) = some (.ref n.a) := by
  rw [val_nd]
  cases hf : g.find? fun n => n.wd = wd with
  | none =>
    obtain ⟨n, hn, e⟩ := List.mem_map.mp h
    have := List.find?_eq_none.mp hf n hn
    simp [e] at this
  | some n =>
    obtain ⟨l, r, e⟩ := ab_split (List.mem_of_find?_eq_some hf)
    exact ⟨l, n, r, e, by simpa using List.find?_some hf, rfl⟩
omit [Lo] in
/-- between the turns of get_ready -/
inductive GrJ (w : World) (h₀ : Heap) (x dx N Rl ta : Addr) (m : Str → Option Value) (p q : Int) (rdy : List (List Nat)) (g : List Nd) (ga : List AN) (I : Addr) (m₁ : Str → Option Value) (h : Heap) : Prop
  | mk (a1 : m₁ "self" = some (.ref x)) (a2 : m₁ "result" = some (.ref ta)) (a3 : m₁ "n2i" = some (.ref N)) (g₁ : List Nd) (T : TS w h₀ h x dx N Rl m p q rdy g₁) (hI : I ∉ Zt x dx N Rl g) (z : Zt x dx N Rl g₁ = Zt x dx N Rl g) (eg : g₁.map Nd.ab = ga) : GrJ w h₀ x dx N Rl ta m p q rdy g ga I m₁ h
omit [Lo] in
noncomputable def f184 (w : World) : Fn w 184 := ⟨_, _, _, _, rfl⟩
set_option maxHeartbeats 4000000 in
/-- get_ready -/
theorem c_rdy {w : World} {A : Around} {E : Value → Shared → Prop} {s : Shared} {Q : Value → Shared → Prop} {d : Nat} {h₀ : Heap} (C : Cx w h₀) (R : Rm A (d + 2) h₀) (k : Kp h₀ s.heap) {x dx N Rl : Addr} {m : Str → Option Value} {p q : Int} {rdy : List (List Nat)} {g : List Nd}
    (T : TS w h₀ s.heap x dx N Rl m p q rdy g) (hl : rdy.length ≤ 1000) (wn : WN (g.map Nd.ab)) (hin : ∀ wd ∈ rdy, wd ∈ g.map Nd.wd)
    (h : ∀ a vs g' m' h' t', Kp h₀ h' → h₀.get? a = none → a ∉ Zt x dx N Rl g' → h'.IsTuple a vs.toArray → SV vs rdy → g'.map Nd.ab = outA (g.map Nd.ab) rdy → TS w h₀ h' x dx N Rl m' (p + rdy.length) q [] g' → Q (.ref a) { s with heap := h', toks := t' }) :
    wpAny (model PW w) A (call (.ref 184) [.ref x]) Q E s := by
  refine' callK (f184 w) (d := d + 1) [("self", .ref x)] (upd (fun _ => none) "self" (.ref x)) (fun _ => none) (C.up k) (R.kp k) ?h2 ?h3 ?h4 ?h5 ?h6 ?h7 ?h8 ?h9 ?h10 ?h11 ?_
  case h2 => rfl
  case h3 => rfl
  case h4 => rfl
  case h5 => rfl
  case h6 => rfl
  case h7 => rfl
  case h8 => rfl
  case h9 => intro _; rfl
  case h10 => intro _; rfl
  case h11 => rfl
  intro L h₁ t₁ E' X R' C'
  refine cutQ fun P₀ hP₀ => ?_
  have T1 := T.kp X.keep
  have X0 := X.base k
  obtain ⟨vs, pl, sv⟩ := T1.L
  have hvl : vs.length = rdy.length := sv.length
  ktr_unf
  refine Attribute_Name_ ?_
  refine nm_loc X.ev (by rfl) ?_
  refine own_get (o_rdy w) C' T1.G.T T1.M.r rfl ?_
  ktr_unf
  refine wpAny_is_other (by rfl) (fun e => nomatch e) ?_
  ktr_unf
  first | refine pif_f (by decide) ?_ | refine wif_f (by decide) ?_ | rw [if_neg (by decide)]
  ktr_unf
  refine nm_blt (v := .type "tuple") C' (by rfl) rfl ?_
  ktr_unf
  refine Attribute_Name_ ?_
  refine nm_loc X.ev (by rfl) ?_
  refine own_get (o_rdy w) C' T1.G.T T1.M.r rfl ?_
  ktr_unf
  refine tuple_L pl (by (first | lia | omega)) fun ta h2 k2 n2 p2 => ?_
  have T2 := T1.kp k2
  have X2 := X0.kp k2
  refine st_loc X2 fun h3 X3 k3 => ?_
  have T3 := T2.ko k3
  have p3 := tp_ko p2 k3
  have nta : h₀.get? ta = none := X0.keep.none n2
  have taz : ∀ z ∈ Zt x dx N Rl g, z ≠ ta := fun z hz q => by obtain ⟨o, e, _⟩ := T1.live z hz; rw [q, n2] at e; cases e
  ktr_unf
  refine Attribute_Name_ ?_
  refine nm_loc X3.ev (by rfl) ?_
  refine own_get (o_n2i w) (X3.cx C) T3.G.T T3.M.n rfl ?_
  refine st_loc X3 fun h4 X4 k4 => ?_
  have T4 := T3.ko k4
  have p4 := tp_ko p3 k4
  ktr_unf
  refine for_rule (h₀ := h₀) (binds_loc (by rfl) (by rfl)) ?_
  refine nm_loc X4.ev (by rfl) ?_
  refine ⟨_, _, _, _, _, Zt x dx N Rl g, fun I i m₁ cm₁ h => GrJ w h₀ x dx N Rl ta m p q rdy g (outA (g.map Nd.ab) (rdy.take i)) I m₁ h,
    X4, src_tuple (X4.rm R).hd p4, ?_, ?_, ⟨rfl, rfl, rfl, g, T4, ?_, rfl, rfl⟩, ?_, ?_⟩
  · intro z hz
    refine ⟨fun q => ?_, let ⟨o, e, _⟩ := T4.live z hz; ⟨o, e⟩⟩
    rw [List.mem_singleton] at q
    exact taz z hz q
  · rintro I i m₁ cm₁ h h' k ⟨a1, a2, a3, g₁, b1, b2, b3, b4⟩
    exact ⟨a1, a2, a3, g₁, b1.toZ fun b o hb n1 n2 e => k b o (fun q => b2 (q ▸ b3 ▸ hb)) e n1 n2, b2, b3, b4⟩
  · intro q; obtain ⟨o, e, _⟩ := T4.live _ q; rw [size_none] at e; cases e
  · rintro I i v m₁ cm₁ s₂ E'' hi hvi hI ⟨oI, hIl, nI1, nI2⟩ X5 k5 ⟨hs, hr, hn2, g₁, T5, hI5, z5, eg5⟩
    refine cutQ fun P₀ hP₀ => ?_
    obtain ⟨wd, tw, hwi, rfl⟩ := sv.get hvi
    have C5 := X5.cx C
    have hwd : wd ∈ g₁.map Nd.wd := by
      rw [← ab_wd, eg5, fst_out, ab_wd]; exact hin wd (List.mem_of_getElem? hwi)
    obtain ⟨l, n, r, rfl, en, ev⟩ := val_at hwd
    have hn5 : n ∈ l ++ n :: r := List.mem_append_right _ List.mem_cons_self
    obtain ⟨tw', tn, J5⟩ := (T5.G.nd n hn5).at_
    have D5 := (T5.G.nd n hn5).own
    ktr_unf
    refine plainObj_wpAny_Assign_Attribute ?_
    refine nm_glob C5 (by rfl) ?_
    ktr_unf
    refine nm_loc X5.ev (by exact hn2) ?_
    ktr_unf
    refine nm_loc X5.ev (by rfl) ?_
    refine sub_dk T5.G.D ev ?_
    refine set_at' (s_np w) C5 J5 D5 fun h6 J6 s6 => ?_
    rw [put_np] at J6
    have T6 := T5.setNp s6 J6
    have X6 := X5.but s6 (T5.G.b4 n hn5).1 ⟨_, J5, (fun q => nomatch q), fun q => nomatch q⟩
    have zz : Zt x dx N Rl (l ++ { n with np := -1 } :: r) = Zt x dx N Rl (l ++ n :: r) := by simp [Zt, Zg]
    have naz : n.a ∈ Zt x dx N Rl g := z5 ▸ List.mem_cons_of_mem _ (zg_mem.mpr (.inr (.inr (.inr ⟨n, hn5, .inl rfl⟩))))
    ktr_unf
    refine ⟨h6, _, _, _, rfl, X6, fun b o hb e _ _ => s6.extBut _ _ (fun q => hb (q ▸ naz)) e, hs, hr, hn2, _, T6, hI5, zz.trans z5, ?_⟩
    have wn5 : WN ((l ++ n :: r).map Nd.ab) := by rw [eg5]; exact wn_out wn _
    rw [np_nd (fun _ => -1) wn5, en, eg5, take_snoc hwi]
    unfold outA
    rw [List.foldl_append]
    rfl
  · rintro I m₁ cm₁ h5 t5 hI X5 k5 ⟨hs, hr, hn2, g₁, T5, hI5, z5, eg5⟩
    have C5 := X5.cx C
    rw [hvl, List.take_length] at eg5
    obtain ⟨vs5, pl5, sv5⟩ := T5.L
    ktr_unf
    refine wpAny_Expr_any ?_
    ktr_unf
    refine Attribute_Name_ ?_
    refine nm_loc X5.ev (by exact hs) ?_
    refine own_get (o_rdy w) C5 T5.G.T T5.M.r rfl ?_
    refine meth_L PySem.F.slot_list_clear PySem.F.type_list_clear pl5 ?_
    ktr_unf
    refine clear_L pl5 (by have := sv5.length; (first | lia | omega)) fun h6 t6 p6 s6 => ?_
    have T6 := T5.setL s6 ⟨[], p6, SV.nil⟩
    have X6 := X5.but s6 T5.n (let ⟨_, e⟩ := pl5; ⟨_, e, cn _ _ (by decide), cn _ _ (by decide)⟩)
    have C6 := X6.cx C
    obtain ⟨tp, ep⟩ := T6.M.p
    have taZ : ta ∉ Zt x dx N Rl g := fun q => taz _ q rfl
    have p6' : h6.IsTuple ta vs.toArray := by
      obtain ⟨o, e, c, r⟩ := p4
      exact ⟨o, s6.extBut _ _ (fun q => taZ (q ▸ List.mem_cons_self)) (k5 _ _ taZ e (kc c) (kc c)), c, r⟩
    ktr_unf
    refine wpAny_AugAssign_AttributeAny ?_
    refine nm_loc X6.ev (by exact hs) ?_
    refine own_get (o_npo w) C6 T6.G.T ep rfl ?_
    ktr_unf
    refine nm_blt (v := .builtin "len") C6 (by rfl) rfl ?_
    ktr_unf
    refine nm_loc X6.ev (by exact hr) ?_
    ktr_unf
    refine len_T p6' (by (first | lia | omega)) fun t' t7 => ?_
    refine i_add fun t'' t8 => ?_
    refine own_store (o_npo w) C6 T6.G.T (by decide) fun h7 I7 s7 => ?_
    rw [ep] at I7
    have T7 := T6.setF s7 I7 (T6.M.setP (p' := p + (vs.length : Int)))
    have X7 := X6.but s7 T6.G.b2 (let ⟨es, n, e, _⟩ := T6.G.T.own; ⟨_, e, cn _ _ (by decide), cn _ _ (by decide)⟩)
    ktr_unf
    refine nm_loc X7.ev (by exact hr) ?_
    rw [hvl] at T7
    ktr_unf
    refine h ta vs g₁ _ _ _ X7.keep nta (z5 ▸ taZ) ?_ sv eg5 T7
    exact tp_but p6' s7 fun q => taZ (q ▸ List.mem_cons_of_mem _ (zg_mem.mpr (.inr (.inl rfl))))
end

section
open PySem PySem.W PySem.Calls PyProof.Rows PyProof.V
variable [Lo]
omit [Lo] in
/-- what done makes of the graph -/
def npOf (g : List AN) (y : List Nat) : Int := ((g.find? fun p => p.1 = y).map (·.2.1)).getD 0
omit [Lo] in
def scOf (g : List AN) (y : List Nat) : List (List Nat) := ((g.find? fun p => p.1 = y).map (·.2.2)).getD []
omit [Lo] in
abbrev ST := List AN × List (List Nat)
omit [Lo] in
def decA (st : ST) (y : List Nat) : ST := (npA y (· - 1) st.1, if npOf st.1 y - 1 = 0 then st.2 ++ [y] else st.2)
omit [Lo] in
def doneA (st : ST) (n : List Nat) : ST := (scOf st.1 n).foldl decA (npA n (fun _ => -2) st.1, st.2)
omit [Lo] in
def OkD : ST → List (List Nat) → Prop
  | _, [] => True
  | st, n :: r => n ∈ st.1.map (·.1) ∧ npOf st.1 n = -1 ∧ (∀ y ∈ scOf st.1 n, y ∈ st.1.map (·.1)) ∧ st.2.length + (scOf st.1 n).length ≤ 900 ∧ OkD (doneA st n) r
omit [Lo] in
theorem fst_dec : ∀ (ys : List (List Nat)) (st : ST), (ys.foldl decA st).1.map (·.1) = st.1.map (·.1)
  | [], st => rfl
  | y :: ys, st => by rw [List.foldl_cons, fst_dec ys]; exact np_fst (wd := y) (f := fun x => x - 1) (g := st.1)
omit [Lo] in
theorem fst_done (st : ST) (n : List Nat) : (doneA st n).1.map (·.1) = st.1.map (·.1) := by
  unfold doneA; rw [fst_dec]; exact np_fst (wd := n) (f := fun _ => -2) (g := st.1)
omit [Lo] in
theorem fst_dones : ∀ (ys : List (List Nat)) (st : ST), (ys.foldl doneA st).1.map (·.1) = st.1.map (·.1)
  | [], st => rfl
  | y :: ys, st => (fst_dones ys (doneA st y)).trans (fst_done st y)
omit [Lo] in
theorem rdy_dec : ∀ (ys : List (List Nat)) (st : ST), (ys.foldl decA st).2.length ≤ st.2.length + ys.length
  | [], st => Nat.le_refl _
  | y :: ys, st => by
    have := rdy_dec ys (decA st y)
    have h2 : (decA st y).2.length ≤ st.2.length + 1 := by unfold decA; dsimp only; split <;> simp
    rw [List.foldl_cons, List.length_cons]; (first | lia | omega)
omit [Lo] in
theorem find_at {l r : List AN} {p : AN} (h : WN (l ++ p :: r)) : (l ++ p :: r).find? (fun q => q.1 = p.1) = some p := by
  obtain ⟨h1, _⟩ := wn_off h
  rw [List.find?_append, List.find?_eq_none.mpr fun q hq => by simpa using h1 q hq]
  simp
omit [Lo] in
theorem np_of_at {l r : List Nd} {n : Nd} (h : WN ((l ++ n :: r).map Nd.ab)) : npOf ((l ++ n :: r).map Nd.ab) n.wd = n.np ∧ scOf ((l ++ n :: r).map Nd.ab) n.wd = n.sc := by
  rw [List.map_append, List.map_cons] at h ⊢
  have := find_at h
  unfold npOf scOf
  rw [show n.ab.1 = n.wd from rfl] at this
  rw [this]
  exact ⟨rfl, rfl⟩
omit [Lo] in
def Zn (Rl dx : Addr) (g : List Nd) : List Addr := Rl :: dx :: g.map Nd.a
omit [Lo] in
theorem zn_zt {Rl dx x N : Addr} {g : List Nd} {z : Addr} (h : z ∈ Zn Rl dx g) : z ∈ Zt x dx N Rl g := by
  rcases List.mem_cons.mp h with rfl | h
  · exact List.mem_cons_self
  rcases List.mem_cons.mp h with rfl | h
  · exact List.mem_cons_of_mem _ (zg_mem.mpr (.inr (.inl rfl)))
  · obtain ⟨n, hn, rfl⟩ := List.mem_map.mp h
    exact List.mem_cons_of_mem _ (zg_mem.mpr (.inr (.inr (.inr ⟨n, hn, .inl rfl⟩))))
omit [Lo] in
theorem zn_eq {Rl dx : Addr} {g g' : List Nd} (h : g'.map Nd.a = g.map Nd.a) : Zn Rl dx g' = Zn Rl dx g := by unfold Zn; rw [h]
omit [Lo] in
theorem zn_u {w : World} {h₀ h : Heap} {x dx N Rl : Addr} {m : Str → Option Value} {p q : Int} {rdy : List (List Nat)} {g : List Nd} (T : TS w h₀ h x dx N Rl m p q rdy g) {z : Addr} (hz : z ∈ Zn Rl dx g) (hu : z ∈ g.map Nd.u) : False := by
  obtain ⟨n, hn, rfl⟩ := List.mem_map.mp hu
  obtain ⟨us, ⟨_, pu⟩, _⟩ := (T.G.nd n hn).succ
  rcases List.mem_cons.mp hz with q | hz
  · exact T.u (q ▸ hu)
  rcases List.mem_cons.mp hz with q | hz
  · obtain ⟨es, nn, e, _⟩ := T.G.T.own; rw [← q, pu] at e; exact absurd (congrArg (fun o => o.map Obj.cls) e) (by simp)
  · obtain ⟨n', hn', q⟩ := List.mem_map.mp hz
    obtain ⟨_, _, e⟩ := (T.G.nd n' hn').at_; rw [q, pu] at e; cases e
omit [Lo] in
/-- between the turns of done's loops -/
inductive DnJ (w : World) (h₀ : Heap) (x dx N Rl : Addr) (p q : Int) (g : List Nd) (X : List AN × List (List Nat)) (Ok : List AN × List (List Nat) → Prop) (I : Addr) (m : Str → Option Value) (h : Heap) : Prop
  | mk (hs : m "self" = some (.ref x)) (hn : m "n2i" = some (.ref N)) (g₁ : List Nd) (m' : Str → Option Value) (rdy₁ : List (List Nat)) (T : TS w h₀ h x dx N Rl m' p q rdy₁ g₁) (hI : I ∉ Zt x dx N Rl g) (hz : Zt x dx N Rl g₁ = Zt x dx N Rl g)
    (ha : g₁.map Nd.a = g.map Nd.a) (eg : (g₁.map Nd.ab, rdy₁) = X) (ok : Ok (g₁.map Nd.ab, rdy₁)) : DnJ w h₀ x dx N Rl p q g X Ok I m h
set_option maxHeartbeats 4000000 in
/-- done -/
theorem c_done {w : World} {A : Around} {E : Value → Shared → Prop} {s : Shared} {Q : Value → Shared → Prop} {d : Nat} {h₀ : Heap} (C : Cx w h₀) (R : Rm A (d + 2) h₀) (k : Kp h₀ s.heap) {x dx N Rl : Addr} {m : Str → Option Value} {p q : Int} {rdy : List (List Nat)} {g : List Nd} {vs : List Value} {ws : List (List Nat)}
    (T : TS w h₀ s.heap x dx N Rl m p q rdy g) (hl : ws.length ≤ 1000) (wn : WN (g.map Nd.ab)) (sv : SV vs ws) (ok : OkD (g.map Nd.ab, rdy) ws)
    (h : ∀ g' m' rdy' h' t', Kp h₀ h' → (g'.map Nd.ab, rdy') = ws.foldl doneA (g.map Nd.ab, rdy) → TS w h₀ h' x dx N Rl m' p (q + ws.length) rdy' g' → Q .none { s with heap := h', toks := t' }) :
    codeAny (model PW w) A (.call (.ref 205) ⟨.ref x :: vs, []⟩) (Ends Q E) s := by
  have hvl : vs.length = ws.length := sv.length
  refine callGC (f205 w) (d := d + 1) (args := ⟨.ref x :: vs, []⟩) (C.up k) (R.kp k) (by rfl) (by rfl) (by rfl) (by rfl) (by rfl) (by rfl) ?_
  rw [bind_done]
  refine wpAny_bind (new_tuple (fun ta h1 e1 k1 n1 p1 => wpAny_pure ⟨k1, ⟨_, rfl⟩, by rfl, ?_⟩) (by rw [sizeLine_is]; (first | lia | omega)))
  intro h2 t2 E' X R' C'
  dsimp only at X R' C' ⊢
  have X0 : Bd h₀ _ (upd (upd (fun _ => none) "self" (.ref x)) "nodes" (.ref ta)) (fun _ => none) h2 := X.base (k.trans k1)
  have T2 := (T.kp k1).kp X.keep
  have p2 := tp_kp p1 X.keep
  have nta : h₀.get? ta = none := k.none n1
  have taz : ∀ z ∈ Zt x dx N Rl g, z ≠ ta := fun z hz q => by obtain ⟨o, e, _⟩ := T.live z hz; rw [q, n1] at e; cases e
  ktr_unf
  refine Attribute_Name_ ?_
  refine nm_loc X0.ev (by rfl) ?_
  refine own_get (o_rdy w) C' T2.G.T T2.M.r rfl ?_
  ktr_unf
  refine wpAny_is_other (by rfl) (fun e => nomatch e) ?_
  ktr_unf
  first | refine pif_f (by decide) ?_ | refine wif_f (by decide) ?_ | rw [if_neg (by decide)]
  ktr_unf
  refine Attribute_Name_ ?_
  refine nm_loc X0.ev (by rfl) ?_
  refine own_get (o_n2i w) C' T2.G.T T2.M.n rfl ?_
  refine st_loc X0 fun h4 X4 k4 => ?_
  have T4 := T2.ko k4
  have p4 := tp_ko p2 k4
  ktr_unf
  refine for_rule (h₀ := h₀) (binds_loc (by rfl) (by rfl)) ?_
  refine nm_loc X4.ev (by rfl) ?_
  refine ⟨_, _, _, _, _, Zn Rl dx g, fun I i m₁ cm₁ h => DnJ w h₀ x dx N Rl p (q + i) g ((ws.take i).foldl doneA (g.map Nd.ab, rdy)) (fun y => OkD y (ws.drop i)) I m₁ h,
    X4, src_tuple (X4.rm R).hd p4, ?_, ?_, ⟨rfl, rfl, g, m, rdy, by simpa using T4, ?_, rfl, rfl, rfl, ok⟩, ?_, ?_⟩
  · intro z hz
    have hz : z ∈ Zt x dx N Rl g := zn_zt hz
    refine ⟨fun q => ?_, let ⟨o, e, _⟩ := T4.live z hz; ⟨o, e⟩⟩
    rw [List.mem_singleton] at q
    exact taz z hz q
  · rintro I i m₁ cm₁ h h' k ⟨a1, a2, g₁, m', rdy₁, b1, b2, b3, b4, b5, b6⟩
    exact ⟨a1, a2, g₁, m', rdy₁, b1.toZ fun b o hb n1 n2 e => k b o (fun q => b2 (q ▸ b3 ▸ hb)) e n1 n2, b2, b3, b4, b5, b6⟩
  · intro q; obtain ⟨o, e, _⟩ := T4.live _ q; rw [size_none] at e; cases e
  · rintro I i v m₁ cm₁ s₂ E'' hi hvi hI ⟨oI, hIl, nI1, nI2⟩ X5 k5 ⟨hs, hn2, g₁, m', rdy₁, T5, hI5, z5, a5, eg5, ok5⟩
    refine cutQ fun P₀ hP₀ => ?_
    obtain ⟨wd, tw, hwi, rfl⟩ := sv.get hvi
    have C5 := X5.cx C
    have ok5 : OkD _ (ws.drop i) := ok5
    rw [List.drop_eq_getElem_cons (by (first | lia | omega) : i < ws.length), show ws[i]'(by (first | lia | omega)) = wd from by rw [List.getElem?_eq_getElem (by (first | lia | omega))] at hwi; exact Option.some.inj hwi] at ok5
    obtain ⟨o1, o2, o3, o4, o5⟩ := ok5
    have hwd : wd ∈ g₁.map Nd.wd := by rw [← ab_wd]; exact o1
    have wn5 : WN (g₁.map Nd.ab) := by
      have : (g₁.map Nd.ab).map (·.1) = (g.map Nd.ab).map (·.1) := by
        have := congrArg Prod.fst eg5
        rw [show g₁.map Nd.ab = _ from this, fst_dones]
      unfold WN; rw [this]; exact wn
    obtain ⟨l, n, r, rfl, en, ev⟩ := val_at hwd
    obtain ⟨enp, esc⟩ := np_of_at wn5
    subst en
    rw [enp] at o2
    have hn5 : n ∈ l ++ n :: r := List.mem_append_right _ List.mem_cons_self
    obtain ⟨tw', tn, J5⟩ := (T5.G.nd n hn5).at_
    ktr_unf
    refine wpAny_NamedExpr ?_
    ktr_unf
    refine nm_loc X5.ev (by exact hn2) ?_
    refine meth_dk PySem.F.slot_dict_get (by rfl) T5.G.D ?_
    ktr_unf
    refine nm_loc X5.ev (by rfl) ?_
    ktr_unf
    refine get_dk T5.G.sy T5.G.D ?_
    rw [ev]
    refine wpAny_assign_Name (st_loc X5 fun h6 X6 k6 => ?_)
    have T6 := T5.ko k6
    have J6 := k6 _ _ J5 (fun q => nomatch q) (fun q => nomatch q)
    have D6 := (T6.G.nd n hn5).own
    have hdn : n.d ≠ n.a := fun q => by rw [q, J6] at D6; cases D6
    ktr_unf
    refine wpAny_is_other (by rfl) (fun e => nomatch e) ?_
    ktr_unf
    first | refine pif_f (by decide) ?_ | refine wif_f (by decide) ?_ | rw [if_neg (by decide)]
    ktr_unf
    refine Attribute_Name_ ?_
    refine nm_loc X6.ev (by rfl) ?_
    refine get_at (s_np w) (X6.cx C) ⟨n.d, J6, D6, hdn⟩ (by rfl) (by rfl) ?_
    refine st_loc X6 fun h7 X7 k7 => ?_
    have T7 := T6.ko k7
    have J7 := k7 _ _ J6 (fun q => nomatch q) (fun q => nomatch q)
    have D7 := (T7.G.nd n hn5).own
    ktr_unf
    refine nm_loc X7.ev (by rfl) ?_
    ktr_unf
    refine nm_glob (X7.cx C) (by rfl) ?_
    ktr_unf
    rw [o2, if_neg (by decide)]
    ktr_unf
    refine plainObj_wpAny_Assign_Attribute ?_
    refine nm_glob (X7.cx C) (by rfl) ?_
    refine nm_loc X7.ev (by rfl) ?_
    refine set_at' (s_np w) (X7.cx C) J7 D7 fun h8 J8 s8 => ?_
    rw [put_np] at J8
    have T8 := T7.setNp s8 J8
    have X8 := X7.but s8 (T7.G.b4 n hn5).1 ⟨_, J7, (fun q => nomatch q), fun q => nomatch q⟩
    ktr_unf
    generalize hn8 : ({ n with np := -2 } : Nd) = n8 at T8
    have en8 : n8.a = n.a ∧ n8.d = n.d ∧ n8.u = n.u ∧ n8.wd = n.wd ∧ n8.np = -2 ∧ n8.sc = n.sc := by subst hn8; exact ⟨rfl, rfl, rfl, rfl, rfl, rfl⟩
    obtain ⟨us, pu, svu⟩ := (T8.G.nd n8 (List.mem_append_right _ List.mem_cons_self)).succ
    rw [en8.2.2.1] at pu
    rw [en8.2.2.2.2.2] at svu
    have hul : us.length = n.sc.length := svu.length
    have o4 : rdy₁.length + n.sc.length ≤ 900 := by rw [← esc]; exact o4
    have o3 : ∀ y ∈ n.sc, y ∈ (l ++ n :: r).map Nd.wd := by rw [← ab_wd, ← esc]; exact o3
    have zz8 : Zt x dx N Rl (l ++ n8 :: r) = Zt x dx N Rl g := by rw [← z5, ← hn8]; simp [Zt, Zg]
    have aa8 : (l ++ n8 :: r).map Nd.a = g.map Nd.a := by rw [← a5, ← hn8]; simp
    have eg8 : doneA ((l ++ n :: r).map Nd.ab, rdy₁) n.wd = n.sc.foldl decA ((l ++ n8 :: r).map Nd.ab, rdy₁) := by
      unfold doneA
      rw [esc, ← np_nd (fun _ => -2) wn5, hn8]
    have wn8 : WN ((l ++ n8 :: r).map Nd.ab) := by rw [← hn8, np_nd (fun _ => -2) wn5]; exact wn_np wn5
    have fst8 : (l ++ n8 :: r).map Nd.wd = (l ++ n :: r).map Nd.wd := by rw [← hn8]; simp
    have hu8 : n.u ∈ (l ++ n8 :: r).map Nd.u := List.mem_map.mpr ⟨n8, List.mem_append_right _ List.mem_cons_self, en8.2.2.1⟩
    rw [eg8] at o5
    rw [← fst8] at o3
    generalize (l ++ n8 :: r) = g8 at T8 zz8 aa8 eg8 wn8 o3 o5 fst8 hu8
    refine for_rule (h₀ := h₀) (binds_loc (by rfl) (by rfl)) ?_
    ktr_unf
    refine Attribute_Name_ ?_
    refine nm_loc X8.ev (by rfl) ?_
    refine get_at (s_succ w) (X8.cx C) ⟨n.d, J8, s8.extBut _ _ hdn D7, hdn⟩ (by rfl) (by rfl) ?_
    refine ⟨_, _, _, _, _, Zn Rl dx g, fun I i₂ m₂ cm₂ h => DnJ w h₀ x dx N Rl p (q + i) g ((n.sc.take i₂).foldl decA (g8.map Nd.ab, rdy₁)) (fun _ => True) I m₂ h,
      X8, src_list (X8.rm R).hd pu, ?_, ?_, ⟨hs, hn2, g8, _, rdy₁, T8, ?_, zz8, aa8, rfl, trivial⟩, ?_, ?_⟩
    · intro z hz
      have hz2 : z ∈ Zt x dx N Rl g8 := by rw [zz8]; exact zn_zt hz
      refine ⟨fun q => ?_, let ⟨o, e, _⟩ := T8.live z hz2; ⟨o, e⟩⟩
      rw [List.mem_singleton] at q
      exact zn_u T8 (by rw [zn_eq aa8]; exact hz) (by rw [q]; exact hu8)
    · rintro I i m₁ cm₁ h h' k ⟨a1, a2, g₁, m', rdy₁, b1, b2, b3, b4, b5, _⟩
      exact ⟨a1, a2, g₁, m', rdy₁, b1.toZ fun b o hb n1 n2 e => k b o (fun q => b2 (q ▸ b3 ▸ hb)) e n1 n2, b2, b3, b4, b5, trivial⟩
    · intro q; rw [← zz8] at q; obtain ⟨o, e, _⟩ := T8.live _ q; rw [size_none] at e; cases e
    · rintro I₂ i₂ v₂ m₂ cm₂ s₃ E₃ hi₂ hvi₂ hI₂ ⟨oI₂, hIl₂, nI₂1, nI₂2⟩ X9 k9 ⟨hs9, hn29, g₂, m9, rdy₂, T9, hI9, z9, a9, eg9, _⟩
      refine cutQ fun P₀ hP₀ => ?_
      obtain ⟨y, ty, hyi, rfl⟩ := svu.get hvi₂
      have C9 := X9.cx C
      have fst9 : (g₂.map Nd.ab).map (·.1) = (g8.map Nd.ab).map (·.1) := by
        have := congrArg Prod.fst eg9
        rw [show g₂.map Nd.ab = _ from this, fst_dec]
      have wn9 : WN (g₂.map Nd.ab) := by unfold WN; rw [fst9]; exact wn8
      have hy : y ∈ g₂.map Nd.wd := by rw [← ab_wd, fst9, ab_wd]; exact o3 y (List.mem_of_getElem? hyi)
      obtain ⟨l2, n2, r2, rfl, en2, ev2⟩ := val_at hy
      obtain ⟨enp2, _⟩ := np_of_at wn9
      subst en2
      have hn9 : n2 ∈ l2 ++ n2 :: r2 := List.mem_append_right _ List.mem_cons_self
      have n2z : n2.a ∈ Zn Rl dx g := by rw [← zn_eq a9]; exact List.mem_cons_of_mem _ (List.mem_cons_of_mem _ (List.mem_map.mpr ⟨n2, hn9, rfl⟩))
      obtain ⟨tw2, tn2, J9⟩ := (T9.G.nd n2 hn9).at_
      ktr_unf
      refine nm_loc X9.ev (by exact hn29) ?_
      ktr_unf
      refine nm_loc X9.ev (by rfl) ?_
      refine sub_dk T9.G.D ev2 ?_
      refine st_loc X9 fun h10 X10 k10 => ?_
      have T10 := T9.ko k10
      have J10 := k10 _ _ J9 (fun q => nomatch q) (fun q => nomatch q)
      have D10 := (T10.G.nd n2 hn9).own
      have hdn2 : n2.d ≠ n2.a := fun q => by rw [q, J10] at D10; cases D10
      ktr_unf
      refine wpAny_AugAssign_AttributeAny ?_
      refine nm_loc X10.ev (by rfl) ?_
      refine get_at (s_np w) (X10.cx C) ⟨n2.d, J10, D10, hdn2⟩ (by rfl) (by rfl) ?_
      ktr_unf
      refine i_sub fun t' t11 => ?_
      refine set_at' (s_np w) (X10.cx C) J10 D10 fun h11 J11 s11 => ?_
      rw [put_np] at J11
      have T11 := T10.setNp s11 J11
      have X11 := X10.but s11 (T10.G.b4 n2 hn9).1 ⟨_, J10, (fun q => nomatch q), fun q => nomatch q⟩
      have D11 := s11.extBut _ _ hdn2 D10
      have zz11 : Zt x dx N Rl (l2 ++ { n2 with np := n2.np - 1 } :: r2) = Zt x dx N Rl g := by rw [← z9]; simp [Zt, Zg]
      have aa11 : (l2 ++ { n2 with np := n2.np - 1 } :: r2).map Nd.a = g.map Nd.a := by rw [← a9]; simp
      have ab11 : (l2 ++ { n2 with np := n2.np - 1 } :: r2).map Nd.ab = npA n2.wd (· - 1) ((l2 ++ n2 :: r2).map Nd.ab) := np_nd (fun z => z - 1) wn9
      have step : n.sc.take (i₂ + 1) = n.sc.take i₂ ++ [n2.wd] := take_snoc hyi
      have k911 : Kz (Zn Rl dx g) s₃.heap h11 := fun b o hb e n1 n2 => s11.extBut _ _ (fun q => hb (q ▸ n2z)) (k10 _ _ e n1 n2)
      ktr_unf
      refine Attribute_Name_ ?_
      refine nm_loc X11.ev (by rfl) ?_
      refine get_at (s_np w) (X11.cx C) ⟨n2.d, J11, D11, hdn2⟩ (by rfl) (by rfl) ?_
      ktr_unf
      by_cases hz : n2.np - 1 = 0
      · first | refine pif_t (by simpa using hz) ?_ | refine wif_t (by simpa using hz) ?_ | rw [if_pos (by simpa using hz)]
        obtain ⟨vr, pr, svr⟩ := T11.L
        have hrl : rdy₂.length ≤ 100000 := by
          have := congrArg (fun z => z.2.length) eg9
          have h2 := rdy_dec (n.sc.take i₂) (g8.map Nd.ab, rdy₁)
          have h3 : (n.sc.take i₂).length ≤ n.sc.length := by rw [List.length_take]; (first | lia | omega)
          dsimp only at this h2
          (first | lia | omega)
        ktr_unf
        refine wpAny_Expr_any ?_
        ktr_unf
        refine Attribute_Name_ ?_
        refine nm_loc X11.ev (by exact hs9) ?_
        refine own_get (o_rdy w) (X11.cx C) T11.G.T T11.M.r rfl ?_
        refine meth_L PySem.F.slot_list_append PySem.F.type_list_append pr ?_
        ktr_unf
        refine nm_loc X11.ev (by rfl) ?_
        ktr_unf
        refine app_L pr (by rw [svr.length]; exact hrl) fun h12 p12 s12 => ?_
        have T12 := T11.setL s12 ⟨_, p12, svr.snoc⟩
        have X12 := X11.but s12 T11.n (let ⟨_, e⟩ := pr; ⟨_, e, cn _ _ (by decide), cn _ _ (by decide)⟩)
        ktr_unf
        refine ⟨h12, _, _, _, rfl, X12, fun b o hb e n1 n2 => s12.extBut _ _ (fun q => hb (q ▸ List.mem_cons_self)) (k911 b o hb e n1 n2), hs9, hn29, _, _, _, T12, hI9, zz11, aa11, ?_, trivial⟩
        rw [step, List.foldl_append, ← eg9]
        show _ = decA _ _
        unfold decA
        dsimp only
        rw [enp2, if_pos hz, ab11]
      · first | refine pif_f (by simpa using hz) ?_ | refine wif_f (by simpa using hz) ?_ | rw [if_neg (by simpa using hz)]
        ktr_unf
        refine ⟨h11, _, _, _, rfl, X11, k911, hs9, hn29, _, _, _, T11, hI9, zz11, aa11, ?_, trivial⟩
        rw [step, List.foldl_append, ← eg9]
        show _ = decA _ _
        unfold decA
        dsimp only
        rw [enp2, if_neg hz, ab11]
    · rintro I₂ m₂ cm₂ h9 t9 hI₂ X9 k9 ⟨hs9, hn29, g₂, m9, rdy₂, T9, hI9, z9, a9, eg9, _⟩
      rw [hul, List.take_length] at eg9
      ktr_unf
      have C9 := X9.cx C
      obtain ⟨tq, eq⟩ := T9.M.q
      refine wpAny_AugAssign_AttributeAny ?_
      refine nm_loc X9.ev (by exact hs9) ?_
      refine own_get (o_nfi w) C9 T9.G.T eq rfl ?_
      ktr_unf
      refine i_add fun t' t10 => ?_
      refine own_store (o_nfi w) C9 T9.G.T (by decide) fun h10 I10 s10 => ?_
      rw [eq] at I10
      have T10 := T9.setF s10 I10 (T9.M.setQ (q' := q + i + 1))
      have X10 := X9.but s10 T9.G.b2 (let ⟨es, n, e, _⟩ := T9.G.T.own; ⟨_, e, cn _ _ (by decide), cn _ _ (by decide)⟩)
      rw [show q + (i : Int) + 1 = q + ((i + 1 : Nat) : Int) by (first | lia | omega)] at T10
      ktr_unf
      refine ⟨h10, _, _, _, rfl, X10, ?_, hs9, hn29, g₂, _, rdy₂, T10, hI5, z9, a9, ?_, ?_⟩
      · intro b o hb e n1 n2
        have hbn : b ≠ n.a := fun q => hb (by rw [← zn_eq a5, q]; exact List.mem_cons_of_mem _ (List.mem_cons_of_mem _ (List.mem_map.mpr ⟨n, hn5, rfl⟩)))
        refine s10.extBut _ _ (fun q => hb (by rw [q]; exact List.mem_cons_of_mem _ List.mem_cons_self)) (k9 b o hb (s8.extBut _ _ hbn (k7 _ _ (k6 _ _ e n1 n2) n1 n2)) n1 n2)
      · rw [take_snoc hwi, List.foldl_append, ← eg5]
        show _ = doneA _ _
        rw [eg8, eg9]
      · rw [eg9]; exact o5
  · rintro I m₁ cm₁ h5 t5 hI X5 k5 ⟨hs, hn2, g₁, m', rdy₁, T5, hI5, z5, a5, eg5, _⟩
    rw [hvl, List.take_length] at eg5
    ktr_unf
    rw [hvl] at T5
    exact h g₁ m' rdy₁ _ _ X5.keep eg5 T5
end

section
open PySem PySem.W PySem.Calls PyProof.Rows PyProof.V
variable [Lo]
section
variable {w : World} {A : Around} {E : Value → Shared → Prop} {s : Shared}
omit [Lo] in
theorem pop_L {l : Addr} {vs : List Value} {y : Value} {Q : Value → Shared → Prop} (hl : s.heap.PlainList l (vs ++ [y]).toArray) (hz : vs.length ≤ 100000) (h : ∀ h', h'.PlainList l vs.toArray → Heap.SameBut l s.heap h' → Q y { s with heap := h' }) : wpAny (model PW w) A (call (.builtin "list.pop") [.ref l]) Q E s := by
  obtain ⟨n, e⟩ := hl
  have hk : (vs ++ [y]).toArray.size - 1 = vs.length := by rw [List.size_toArray, List.length_append]; rfl
  have hy : (vs ++ [y]).toArray[(vs ++ [y]).toArray.size - 1]? = some y := by rw [hk]; simp
  refine call_meets PySem.F.slot_list_pop ⟨_, e, rfl⟩ PySem.F.entry_list_pop (PySem.F.args_list_pop_1 _) (PySem.MeetsSeq.list_pop_last l _ n y hy (by rw [List.size_toArray, List.length_append, sizeLine_is]; simp; (first | lia | omega))) ⟨e, h _ ?_ (Heap.SameBut.update ..)⟩
  have he : (vs ++ [y]).toArray.eraseIdxIfInBounds ((vs ++ [y]).toArray.size - 1) = vs.toArray := by rw [hk]; simpa using kl_erase vs [] y
  obtain ⟨n', hn⟩ : ∃ n', Obj.mapSeq (fun xs => xs.eraseIdxIfInBounds ((vs ++ [y]).toArray.size - 1)) { cls := .type "list", data := .seq (vs ++ [y]).toArray n } = { cls := .type "list", data := .seq ((vs ++ [y]).toArray.eraseIdxIfInBounds ((vs ++ [y]).toArray.size - 1)) n' } := ⟨_, rfl⟩
  exact ⟨n', by rw [Heap.get?_update_self _ e (by rw [hn]; rfl), hn, he]⟩
omit [Lo] in
theorem in_dk {d : Addr} {kvs : List (Str × Value)} {k : Str} {t : Tok} {Q : Value → Shared → Prop} (hs : (d == sysModules) = false) (D : DK w s.heap d kvs) (h : ∀ tk, Q (.bool (valueAt kvs k).isSome) { s with toks := tk }) : wpAny (model PW w) A (compareOp .In (.str k t) (.ref d)) Q E s :=
  wpAny_in_of (strKind_is PW w k t) hs D.mapOf (h _)
omit [Lo] in
theorem del_dk {d : Addr} {kvs : List (Str × Value)} {k : Str} {t : Tok} {Q : Unit → Shared → Prop} (D : DK w s.heap d kvs) (hl : (valueAt kvs k).isSome = true) (hz : kvs.length ≤ 100000) (h : ∀ h' tk, DK w h' d (without kvs k) → Heap.SameBut d s.heap h' → Q () { s with heap := h', toks := tk }) : wpAny (model PW w) A (delItem (.ref d) (.str k t)) Q E s := by
  unfold delItem
  try with_reducible refine wpAny_holding ?_
  refine wpAny_bind (wpAny_sequenceKey D.typeIs (by decide) ?_)
  refine wpAny_bind (wpAny_callSpecial?_slot (name := Str.ofString "__delitem__") D.typeIs PySem.F.slot_dict_delitem
    (call_meetsIn PySem.F.slot_dict_delitem D.typeIs PySem.F.entry_dict_delitem (PySem.F.args_dict_delitem_2 _ _) (meets_dict_delitem_pairs (strKind PW w) d (strKind_is PW w k t)) ⟨kvs, D, (by rw [sizeLine_is]; (first | lia | omega)), hl, fun h' hmm hs => ?_⟩))
  exact wpAny_pure (h h' _ hmm hs)
omit [Lo] in
/-- a set of words -/
def SS (w : World) (h : Heap) (a : Addr) (ws : List (List Nat)) : Prop := ∃ S n, h.SetOf (strKind PW w) a S n ∧ n ≤ ws.length ∧ ∀ wd, S (Mine.S wd) = decide (wd ∈ ws)
omit [Lo] in
theorem in_ss {a : Addr} {ws : List (List Nat)} {wd : List Nat} {t : Tok} {Q : Value → Shared → Prop} (D : SS w s.heap a ws) (h : ∀ tk, Q (.bool (decide (wd ∈ ws))) { s with toks := tk }) : wpAny (model PW w) A (compareOp .In (.str (S wd) t) (.ref a)) Q E s := by
  obtain ⟨f, n, hs, hn, hf⟩ := D
  refine wpAny_inSet_of (strKind_is PW w _ t) (by rfl) hs ?_
  rw [hf]; exact h _
omit [Lo] in
theorem meth_ss {a : Addr} {ws : List (List Nat)} {pl : Sem Bool} {Q : Value × List Value → Shared → Prop} (D : SS w s.heap a ws) (h : Q (.builtin "set.add", [.ref a]) s) : wpAny (model PW w) A (getMethod (.ref a) "add" pl) Q E s :=
  let ⟨_, _, hs, _⟩ := D; getMethod_set_add hs h
omit [Lo] in
theorem add_ss {a : Addr} {ws : List (List Nat)} {wd : List Nat} {t : Tok} {Q : Value → Shared → Prop} (D : SS w s.heap a ws) (hz : ws.length ≤ 1000) (h : ∀ h' tk, SS w h' a (ws ++ [wd]) → Heap.SameBut a s.heap h' → Q .none { s with heap := h', toks := tk }) : wpAny (model PW w) A (call (.builtin "set.add") [.ref a, .str (S wd) t]) Q E s := by
  obtain ⟨f, n, hs, hn, hf⟩ := D
  refine call_set_add (strKind_is PW w _ t) (by rfl) hs (by unfold scanBound; (first | lia | omega)) fun h' sb hs' => h h' _ ⟨_, _, hs', ?_, fun y => ?_⟩ sb
  · rw [List.length_append, List.length_singleton]; split <;> (first | lia | omega)
  · rw [hf]
    rw [Bool.eq_iff_iff]
    simp only [Bool.or_eq_true, decide_eq_true_eq, List.mem_append, List.mem_singleton]
    exact ⟨fun q => q.imp id fun e => S_inj e, fun q => q.imp id fun e => by rw [e]⟩
theorem new_ss {Q : Value → Shared → Prop} (h : ∀ a h', Kp s.heap h' → s.heap.get? a = none → SS w h' a [] → Q (.ref a) { s with heap := h' }) : wpAny (model PW w) A (call (.type "set") []) Q E s := by
  refine call_set_0 fun led => h _ _ (Kp.push _ _) (size_none _) ⟨fun _ => false, 0, ?_, Nat.le_refl _, fun _ => by simp⟩
  exact (setObjOf_fresh led).setOf (Heap.get?_push_size _ rfl) (by unfold scanBound; decide)
omit [Lo] in
theorem SS.at {h h' : Heap} {a : Addr} {ws : List (List Nat)} (D : SS w h a ws) (k : ∀ o, o.cls = .type "set" → h.get? a = some o → h'.get? a = some o) : SS w h' a ws := by
  obtain ⟨f, n, ⟨o, es, ep, t, e, c, r⟩, q⟩ := D
  exact ⟨f, n, ⟨o, es, ep, t, k o c.1 e, c, r⟩, q⟩
omit [Lo] in
theorem DK.at {h h' : Heap} {d : Addr} {kvs : List (Str × Value)} (D : DK w h d kvs) (k : ∀ o, o.cls = .type "dict" → h.get? d = some o → h'.get? d = some o) : DK w h' d kvs := by
  obtain ⟨o, es, ep, e, c, r⟩ := D
  exact ⟨o, es, ep, k o c.1 e, c, r⟩
end
section
variable {w : World} {A : Around} {s : Shared}
/-- the heap without its frames and the exception -/
def noFe (e : Addr) (h : Heap) : Heap := strip (fun b o => isFr b o || decide (b = e)) h
theorem noFe_in {e : Addr} {h : Heap} {b : Addr} {o : Obj} (q : (noFe e h).get? b = some o) : h.get? b = some o ∧ isFr b o = false ∧ b ≠ e := by
  rw [noFe, get_strip] at q
  obtain ⟨q1, q2⟩ := Option.filter_eq_some_iff.mp q
  simp at q2
  exact ⟨q1, by simpa using q2.1, q2.2⟩
theorem noFe_of {e : Addr} {h : Heap} {b : Addr} {o : Obj} (q : h.get? b = some o) (c : isFr b o = false) (n : b ≠ e) : (noFe e h).get? b = some o := by
  rw [noFe, get_strip, q]; simp [Option.filter, c, n]
theorem noFe_e {e : Addr} {h : Heap} : (noFe e h).get? e = none := by
  cases q : (noFe e h).get? e with
  | none => rfl
  | some o => exact absurd rfl (noFe_in q).2.2
theorem noFe_fr {e : Addr} {h : Heap} {b : Addr} {o : Obj} (q : h.get? b = some o) (c : isFr b o = true) : (noFe e h).get? b = none := by
  cases z : (noFe e h).get? b with
  | none => rfl
  | some o' => obtain ⟨z1, z2, _⟩ := noFe_in z; rw [q] at z1; cases z1; rw [c] at z2; cases z2
theorem funFe {e : Addr} {h₀ h : Heap} (k : Kp h₀ h) : ∀ {l : List Env}, FrD h₀ l → h.FunFrames (noFe e h) l
  | [], _ => trivial
  | env :: r, ⟨a, ⟨L, o, es, n, e1, e2, e3, e4⟩, f⟩ => by
    obtain ⟨sl, e5⟩ := k.on _ _ e2
    refine ⟨by rw [a]; decide, ⟨L, _, e1, noFe_fr e5 (isFr_dict (o := { o with slots := sl.1 }) e3 e4.1 e4.2), e5, fun vs q => ?_⟩, funFe k f⟩
    have : o.data = .fields vs := q
    rw [e4.1] at this; cases this
omit [Lo] in
theorem sub_stop : isSubtype (.type "StopIteration") (.type "StopIteration") = pure true := by rw [isSubtype_type]; kernel_rfl
omit [Lo] in
theorem stop_exc : isSubtype (.type "StopIteration") (.type "BaseException") = pure true := by rw [isSubtype_type]; kernel_rfl
omit [Lo] in
theorem stop_nt : isSubtype (.type ((Manifest.find? "StopIteration").elim "type" fun x => x.metatype)) (.type "tuple") = pure false := by rw [isSubtype_type]; kernel_rfl
/-- a try whose StopIteration is caught -/
theorem try_stop {h₀ : Heap} {env : Env} {d : Nat} {body suite : List Stmt} {b₀ : Stmt} {pos pos' p : Pos} {Q : Flow → Shared → Prop} {E : Value → Shared → Prop} (C : Cx w h₀) (R : Rm A d h₀) (hk : env.scope.kind = .function) (hf : env.frame = some env.locals)
    (hl : env.kindOf "StopIteration" = some .globalImplicit) (hg : env.globals = mainGlobals) (hb : env.builtins = builtinsNs)
    (h : wpAny (model PW w) (A.deeper env) (execs body env) Q (fun v s₁ => ∃ e m cm, v = .ref e ∧ h₀.get? e = none ∧ Bd h₀ env m cm s₁.heap ∧ (∃ t, s₁.heap.get? e = some { cls := .type "StopIteration", data := .fields #[.ref t, .none, .none, .none, .bool false, .none] }) ∧
      ∀ h' E', Kp (wo [e] s₁.heap) h' → wpAny (model PW w) ((A.deeper env).mark (some (.ref e))) (execs (b₀ :: suite) env) Q E' { s₁ with heap := h' }) s) :
    wpAny (model PW w) (A.deeper env) (exec (.Try body [.ExceptHandler (some (.Name "StopIteration" p)) none (b₀ :: suite) pos'] [] [] pos) env) Q E s := by
  refine wpAny_Try_except (wpAny_mono h (fun f s₁ h₁ => ?_) fun v s₁ h₁ => ?_)
  · cases f with
    | next => exact wpAny_execs_nil h₁
    | brk => exact h₁
    | cont => exact h₁
    | ret v => exact h₁
  · obtain ⟨e, m, cm, rfl, hne, B, ⟨t, he⟩, hK⟩ := h₁
    obtain ⟨outer, ho, hfr⟩ := R.fr
    have kk := B.keep
    obtain ⟨oL, eL, cL⟩ := B.fc
    obtain ⟨oL', es, ep, eL', dL, _⟩ := B.ev.ns
    rw [eL] at eL'; cases eL'
    have stays : (noFe e s₁.heap).StaysIn s₁.heap := fun b o q => (noFe_in q).1
    have hff : s₁.heap.FunFrames (noFe e s₁.heap) (env :: outer) := by
      refine ⟨by rw [hk]; decide, ⟨env.locals, _, hf, noFe_fr eL (isFr_dict cL dL B.lo), eL, fun vs q => ?_⟩, funFe kk hfr⟩
      have : oL.data = .fields vs := q
      rw [dL] at this; cases this
    have kW : ∀ h', (noFe e s₁.heap).StaysIn h' → (∀ b o, s₁.heap.get? b = some o → (∀ vs, o.data ≠ .fields vs) → ∃ sl, h'.get? b = some { o with slots := sl }) → Kp (wo [e] s₁.heap) h' := by
      intro h' a1 a4
      refine ⟨fun b o q c => ?_, fun b o q => ?_⟩
      · obtain ⟨q1, q2⟩ := wo_in q
        exact a1 _ _ (noFe_of q2 (isFr_off c) (by simpa using q1))
      · obtain ⟨q1, q2⟩ := wo_in q
        cases c : isFr b o with
        | true =>
          exact let ⟨sl, e3⟩ := a4 b o q2 (isFr_is c).2; ⟨⟨sl, fun q => absurd (isFr_is c).1 (Nat.not_le.mpr q)⟩, e3⟩
        | false => exact ⟨⟨o.slots, fun _ => rfl⟩, a1 _ _ (noFe_of q2 c (by simpa using q1))⟩
    unfold noteFrame
    simp only [hf]
    refine wpAny_bind (wpAny_field (x := .none) he rfl rfl ?_)
    rw [if_neg (show ¬ ((Value.none != Value.none) = true) by decide)]
    refine wpAny_entryW (base := noFe e s₁.heap) (outer := outer) (by show A.frames.map _ = _; rw [ho]; rfl) hff hf he stays noFe_e rfl (Nat.le_of_ble_eq_true rfl) rfl fun h2 N => ?_
    obtain ⟨a1, a2, a3, a4⟩ := N
    refine wpAny_setFlight_noneW a1 a2 a3 fun h3 b1 b2 b3 b4 => ?_
    have u3 : ∀ b o, s₁.heap.get? b = some o → (∀ vs, o.data ≠ .fields vs) → ∃ sl, h3.get? b = some { o with slots := sl } := fun b o q nf => by
      obtain ⟨sl, e1⟩ := a4 b o q nf
      exact ⟨sl, b4 b _ e1 nf⟩
    have k3 := kW h3 b1 u3
    have C3 : Cx w h3 := (C.up (kp_wo kk fun z hz => by rw [List.mem_singleton.mp hz]; exact hne)).up k3
    refine wpAny_handleBy_builtin (b := true) stop_exc stop_nt sub_stop ?_
    refine nm_blt (v := .type "StopIteration") C3 (by rfl) rfl ?_ hk hl hg hb
    refine ⟨rfl, ?_, ?_⟩
    · obtain ⟨oe, vs, T, oT, ts, q1, q2, _⟩ := b3; exact ⟨oe, q1, q2.1⟩
    · rw [if_pos rfl]
      refine wpAny_setFlight_noneW b1 b2 b3 fun h4 c1 c2 c3 c4 => ?_
      exact hK h4 _ (kW h4 c1 fun b o q nf => by
        obtain ⟨sl, e1⟩ := u3 b o q nf
        exact ⟨sl, c4 b _ e1 nf⟩)
end
end

section
open PySem PySem.W PySem.Calls PyProof.Rows PyProof.V
variable [Lo]
omit [Lo] in
/-- an entry of the search's stack: word, its successors' list, the iterator over it, the iterator's __next__, place, successors -/
structure Ent where
  wd : List Nat
  u : Addr
  it : Addr
  b : Addr
  i : Nat
  sc : List (List Nat)
omit [Lo] in
structure EntOk (hS hT h : Heap) (g : List Nd) (e : Ent) : Prop where
  b : h.get? e.b = some (boundB "method-wrapper" "list_iterator.__next__" e.it)
  it : LI h e.it e.u e.i
  n : hS.get? e.it = none
  nz : ∀ o, hT.get? e.it = some o → o.cls = .type "frame" ∨ o.cls = .type "cell"
  nd : ∃ n ∈ g, n.wd = e.wd ∧ n.u = e.u ∧ n.sc = e.sc
  i : e.i ≤ e.sc.length
omit [Lo] in
structure FS (w : World) (hS hT h : Heap) (g : List Nd) (SA IA SE DA : Addr) (a : List (List Nat)) (b : List Addr) (c : List (List Nat)) (es : List Ent) (sn : List (List Nat)) : Prop where
  sv : WL h SA a
  il : h.PlainList IA (b.map fun e => Value.ref e).toArray
  se : SS w h SE sn
  dk : ∃ kvs, DK w h DA kvs ∧ kvs.map (·.1) = c.map S
  ent : ∀ e ∈ es, EntOk hS hT h g e
  nd : (es.map Ent.it).Nodup
  ne : SA ≠ IA
  sy : (DA == sysModules) = false
  f : hS.get? SA = none ∧ hS.get? IA = none ∧ hS.get? SE = none ∧ hS.get? DA = none
section
variable {w : World} {hS hT h h' : Heap} {g : List Nd} {SA IA SE DA : Addr} {a : List (List Nat)} {b : List Addr} {c : List (List Nat)} {es : List Ent} {sn : List (List Nat)}
omit [Lo] in
theorem EntOk.to {e : Ent} (x : EntOk hS hT h g e) (k : ∀ b o, o.cls = .type "method-wrapper" ∨ o.cls = .type "list_iterator" → h.get? b = some o → (b = e.it ∨ o.cls = .type "method-wrapper") → h'.get? b = some o) : EntOk hS hT h' g e :=
  ⟨k _ _ (.inl rfl) x.b (.inr rfl), k _ _ (.inr rfl) x.it (.inl rfl), x.n, x.nz, x.nd, x.i⟩
omit [Lo] in
theorem SS.obj {a : Addr} {ws : List (List Nat)} (x : SS w h a ws) : ∃ o, h.get? a = some o ∧ o.cls = .type "set" := let ⟨f, n, ⟨o, es, ep, t, e, c, r⟩, q⟩ := x; ⟨o, e, c.1⟩
omit [Lo] in
theorem WL.obj {a : Addr} {ws : List (List Nat)} (x : WL h a ws) : ∃ o, h.get? a = some o ∧ o.cls = .type "list" := let ⟨vs, ⟨n, e⟩, q⟩ := x; ⟨_, e, rfl⟩
omit [Lo] in
theorem WL.at {a : Addr} {ws : List (List Nat)} (x : WL h a ws) (k : ∀ o, o.cls = .type "list" → h.get? a = some o → h'.get? a = some o) : WL h' a ws := let ⟨vs, ⟨n, e⟩, q⟩ := x; ⟨vs, ⟨n, k _ rfl e⟩, q⟩
omit [Lo] in
theorem FS.to (x : FS w hS hT h g SA IA SE DA a b c es sn) (k : ∀ b o, o.cls ≠ .type "frame" → o.cls ≠ .type "cell" → h.get? b = some o → h'.get? b = some o) : FS w hS hT h' g SA IA SE DA a b c es sn :=
  ⟨x.sv.at fun o q e => k _ _ (kc q) (kc q) e, let ⟨n, e⟩ := x.il; ⟨n, k _ _ (cn _ _ (by decide)) (cn _ _ (by decide)) e⟩,
    x.se.at fun o q e => k _ _ (kc q) (kc q) e,
    let ⟨kvs, D, q⟩ := x.dk; ⟨kvs, D.at fun o q e => k _ _ (kc q) (kc q) e, q⟩,
    fun e he => (x.ent e he).to fun b o q z _ => k b o (by rcases q with q | q <;> (rw [q]; exact cn _ _ (by decide))) (by rcases q with q | q <;> (rw [q]; exact cn _ _ (by decide))) z, x.nd, x.ne, x.sy, x.f⟩
theorem FS.kp (x : FS w hS hT h g SA IA SE DA a b c es sn) (k : Kp h h') : FS w hS hT h' g SA IA SE DA a b c es sn := x.to fun b o n _ e => k.off b o e n
omit [Lo] in
theorem FS.ko (x : FS w hS hT h g SA IA SE DA a b c es sn) (k : Ko h h') : FS w hS hT h' g SA IA SE DA a b c es sn := x.to fun b o n m e => k b o e n m
omit [Lo] in
theorem neq {z y : Addr} {oz oy : Obj} {p q : String} (ez : h.get? z = some oz) (ey : h.get? y = some oy) (cz : oz.cls = .type p) (cy : oy.cls = .type q) (n : p ≠ q) : y ≠ z := by
  rintro rfl; rw [ez] at ey; cases ey; rw [cz] at cy; exact cn _ _ n cy
omit [Lo] in
/-- the stack's own list changes -/
theorem FS.setS {a' : List (List Nat)} (x : FS w hS hT h g SA IA SE DA a b c es sn) (s : Heap.SameBut SA h h') (L : WL h' SA a') : FS w hS hT h' g SA IA SE DA a' b c es sn := by
  obtain ⟨oz, ez, cz⟩ := x.sv.obj
  have kp : ∀ y o q, "list" ≠ q → o.cls = .type q → h.get? y = some o → h'.get? y = some o := fun y o q n cy ey => s.extBut _ _ (neq ez ey cz cy n) ey
  refine ⟨L, ?_, x.se.at fun o q e => kp _ _ _ (by decide) q e, let ⟨kvs, D, q⟩ := x.dk; ⟨kvs, D.at fun o q e => kp _ _ _ (by decide) q e, q⟩, fun e he => (x.ent e he).to fun b o q z _ => q.elim (fun q => kp _ _ _ (by decide) q z) fun q => kp _ _ _ (by decide) q z, x.nd, x.ne, x.sy, x.f⟩
  obtain ⟨n, e⟩ := x.il
  exact ⟨n, s.extBut _ _ (Ne.symm x.ne) e⟩
omit [Lo] in
theorem FS.setI {b' : List Addr} (x : FS w hS hT h g SA IA SE DA a b c es sn) (s : Heap.SameBut IA h h') (L : h'.PlainList IA (b'.map fun e => Value.ref e).toArray) : FS w hS hT h' g SA IA SE DA a b' c es sn := by
  obtain ⟨nz, ez⟩ := x.il
  have kp : ∀ y o q, "list" ≠ q → o.cls = .type q → h.get? y = some o → h'.get? y = some o := fun y o q n cy ey => s.extBut _ _ (neq ez ey rfl cy n) ey
  refine ⟨x.sv.at fun o _ e => s.extBut _ _ x.ne e, L, x.se.at fun o q e => kp _ _ _ (by decide) q e, let ⟨kvs, D, q⟩ := x.dk; ⟨kvs, D.at fun o q e => kp _ _ _ (by decide) q e, q⟩, fun e he => (x.ent e he).to fun b o q z _ => q.elim (fun q => kp _ _ _ (by decide) q z) fun q => kp _ _ _ (by decide) q z, x.nd, x.ne, x.sy, x.f⟩
omit [Lo] in
theorem FS.setE {sn' : List (List Nat)} (x : FS w hS hT h g SA IA SE DA a b c es sn) (s : Heap.SameBut SE h h') (L : SS w h' SE sn') : FS w hS hT h' g SA IA SE DA a b c es sn' := by
  obtain ⟨oz, ez, cz⟩ := x.se.obj
  have kp : ∀ y o q, "set" ≠ q → o.cls = .type q → h.get? y = some o → h'.get? y = some o := fun y o q n cy ey => s.extBut _ _ (neq ez ey cz cy n) ey
  refine ⟨x.sv.at fun o q e => kp _ _ _ (by decide) q e, let ⟨n, e⟩ := x.il; ⟨n, kp _ _ _ (by decide) rfl e⟩, L, let ⟨kvs, D, q⟩ := x.dk; ⟨kvs, D.at fun o q e => kp _ _ _ (by decide) q e, q⟩, fun e he => (x.ent e he).to fun b o q z _ => q.elim (fun q => kp _ _ _ (by decide) q z) fun q => kp _ _ _ (by decide) q z, x.nd, x.ne, x.sy, x.f⟩
omit [Lo] in
theorem FS.setD {c' : List (List Nat)} (x : FS w hS hT h g SA IA SE DA a b c es sn) (s : Heap.SameBut DA h h') (L : ∃ kvs, DK w h' DA kvs ∧ kvs.map (·.1) = c'.map S) : FS w hS hT h' g SA IA SE DA a b c' es sn := by
  obtain ⟨kvs, D, q⟩ := x.dk
  obtain ⟨oz, ez, cz⟩ := D.obj
  have kp : ∀ y o q, "dict" ≠ q → o.cls = .type q → h.get? y = some o → h'.get? y = some o := fun y o q n cy ey => s.extBut _ _ (neq ez ey cz cy n) ey
  exact ⟨x.sv.at fun o q e => kp _ _ _ (by decide) q e, let ⟨n, e⟩ := x.il; ⟨n, kp _ _ _ (by decide) rfl e⟩, x.se.at fun o q e => kp _ _ _ (by decide) q e, L, fun e he => (x.ent e he).to fun b o q z _ => q.elim (fun q => kp _ _ _ (by decide) q z) fun q => kp _ _ _ (by decide) q z, x.nd, x.ne, x.sy, x.f⟩
omit [Lo] in
/-- the last entry's iterator goes on -/
theorem FS.setN {pre : List Ent} {e : Ent} (x : FS w hS hT h g SA IA SE DA a b c (pre ++ [e]) sn) (s : Heap.SameBut e.it h h') (L : LI h' e.it e.u (e.i + 1)) (hi : e.i + 1 ≤ e.sc.length) : FS w hS hT h' g SA IA SE DA a b c (pre ++ [{ e with i := e.i + 1 }]) sn := by
  have he : e ∈ pre ++ [e] := List.mem_append_right _ List.mem_cons_self
  have ez := (x.ent e he).it
  have kp : ∀ y o q, "list_iterator" ≠ q → o.cls = .type q → h.get? y = some o → h'.get? y = some o := fun y o q n cy ey => s.extBut _ _ (neq ez ey rfl cy n) ey
  refine ⟨x.sv.at fun o q e => kp _ _ _ (by decide) q e, let ⟨n, e⟩ := x.il; ⟨n, kp _ _ _ (by decide) rfl e⟩, x.se.at fun o q e => kp _ _ _ (by decide) q e, let ⟨kvs, D, q⟩ := x.dk; ⟨kvs, D.at fun o q e => kp _ _ _ (by decide) q e, q⟩, fun y hy => ?_, by simpa using x.nd, x.ne, x.sy, x.f⟩
  rcases List.mem_append.mp hy with hy | hy
  · refine (x.ent y (List.mem_append_left _ hy)).to fun b o q z qq => q.elim (fun q => kp _ _ _ (by decide) q z) fun q => s.extBut _ _ ?_ z
    rintro rfl
    rcases qq with qq | qq
    · have := x.nd
      rw [List.map_append, List.nodup_append] at this
      exact this.2.2 _ (List.mem_map.mpr ⟨y, hy, rfl⟩) _ (List.mem_map.mpr ⟨e, List.mem_singleton_self _, rfl⟩) qq.symm
    · rw [q] at qq; exact cn _ _ (by decide) qq
  · rw [List.mem_singleton.mp hy]
    exact ⟨kp _ _ _ (by decide) rfl (x.ent e he).b, L, (x.ent e he).n, (x.ent e he).nz, (x.ent e he).nd, hi⟩
/-- a new entry -/
theorem FS.addE {e : Ent} (x : FS w hS hT h g SA IA SE DA a b c es sn) (k : Kp h h') (n : h.get? e.it = none) (o : EntOk hS hT h' g e) : FS w hS hT h' g SA IA SE DA a b c (es ++ [e]) sn := by
  have x' := x.kp k
  refine ⟨x'.sv, x'.il, x'.se, x'.dk, fun y hy => ?_, ?_, x'.ne, x'.sy, x'.f⟩
  · rcases List.mem_append.mp hy with hy | hy
    · exact x'.ent y hy
    · rw [List.mem_singleton.mp hy]; exact o
  · rw [List.map_append, List.nodup_append]
    refine ⟨x'.nd, by simp, fun p hp q hq e' => ?_⟩
    rw [List.map_singleton, List.mem_singleton] at hq
    obtain ⟨y, hy, rfl⟩ := List.mem_map.mp hp
    have := (x.ent y hy).it
    unfold LI at this
    rw [e', hq, n] at this; cases this
omit [Lo] in
/-- the last entry goes -/
theorem FS.popE {pre : List Ent} {e : Ent} (x : FS w hS hT h g SA IA SE DA a b c (pre ++ [e]) sn) : FS w hS hT h g SA IA SE DA a b c pre sn := by
  refine ⟨x.sv, x.il, x.se, x.dk, fun y hy => x.ent y (List.mem_append_left _ hy), ?_, x.ne, x.sy, x.f⟩
  have := x.nd
  rw [List.map_append, List.nodup_append] at this
  exact this.1
omit [Lo] in
/-- the last entry's iterator is done: all else stays -/
theorem FS.popN {pre : List Ent} {e : Ent} (x : FS w hS hT h g SA IA SE DA a b c (pre ++ [e]) sn) (k : ∀ b o, b ≠ e.it → o.cls ≠ .type "frame" → h.get? b = some o → h'.get? b = some o) : FS w hS hT h' g SA IA SE DA a b c pre sn := by
  have he : e ∈ pre ++ [e] := List.mem_append_right _ List.mem_cons_self
  have ez := (x.ent e he).it
  have kp : ∀ y o q, "list_iterator" ≠ q → q ≠ "frame" → o.cls = .type q → h.get? y = some o → h'.get? y = some o := fun y o q n nf cy ey => k _ _ (neq ez ey rfl cy n) (by rw [cy]; exact cn _ _ nf) ey
  refine ⟨x.sv.at fun o q e => kp _ _ _ (by decide) (by decide) q e, let ⟨n, e⟩ := x.il; ⟨n, kp _ _ _ (by decide) (by decide) rfl e⟩, x.se.at fun o q e => kp _ _ _ (by decide) (by decide) q e, let ⟨kvs, D, q⟩ := x.dk; ⟨kvs, D.at fun o q e => kp _ _ _ (by decide) (by decide) q e, q⟩, fun y hy => ?_, ?_, x.ne, x.sy, x.f⟩
  · refine (x.ent y (List.mem_append_left _ hy)).to fun b o q z qq => q.elim (fun q => kp _ _ _ (by decide) (by decide) q z) fun q => k _ _ ?_ (kc q) z
    rintro rfl
    rcases qq with qq | qq
    · have := x.nd
      rw [List.map_append, List.nodup_append] at this
      exact this.2.2 _ (List.mem_map.mpr ⟨y, hy, rfl⟩) _ (List.mem_map.mpr ⟨e, List.mem_singleton_self _, rfl⟩) qq.symm
    · rw [q] at qq; exact cn _ _ (by decide) qq
  · have := x.nd
    rw [List.map_append, List.nodup_append] at this
    exact this.1
end
/-- all but one object stays -/
theorem Bd.ex {h₀ : Heap} {env : Env} {m cm : Str → Option Value} {h h' : Heap} {x : Addr} (X : Bd h₀ env m cm h) (k : ∀ b o, b ≠ x → h.get? b = some o → h'.get? b = some o) (n : h₀.get? x = none) (hx : ∃ o, h.get? x = some o ∧ o.cls ≠ .type "frame" ∧ o.cls ≠ .type "cell") : Bd h₀ env m cm h' := by
  obtain ⟨oI, eI, n1, n2⟩ := hx
  have hLI : env.locals ≠ x := fun q => by obtain ⟨o, e, c⟩ := X.fc; rw [q, eI] at e; cases e; exact n1 c
  have hcI : ∀ y c, (y, c) ∈ env.cells → c ≠ x := fun y c hm q => by obtain ⟨o, e, c'⟩ := X.cc y c hm; rw [q, eI] at e; cases e; exact n2 c'
  exact ⟨⟨X.ev.ns.at' fun o e => k _ o hLI e, fun y c e => by obtain ⟨o, e1, d⟩ := X.ev.cell y c e; exact ⟨o, k c o (hcI y c (mem_of_lookup e)) e1, d⟩⟩, (by obtain ⟨o, e, c⟩ := X.fc; exact ⟨o, k _ o hLI e, c⟩), X.apart,
    fun y c hm => by obtain ⟨o, e, c'⟩ := X.cc y c hm; exact ⟨o, k c o (hcI y c hm) e, c'⟩,
    ⟨fun b o e nf => k b o (nn (n) e) (X.keep.off b o e nf), fun b o e => by
      obtain ⟨sl, e1⟩ := X.keep.on b o e
      exact ⟨sl, k b _ (nn (n) e) e1⟩⟩, X.nl, X.nc, X.lo⟩
end

section
open PySem PySem.W PySem.Calls PyProof.Rows PyProof.V
variable [Lo]
omit [Lo] in
structure NM (m : Str → Option Value) (N SA IA SE DA : Addr) : Prop where
  n : m "n2i" = some (.ref N)
  s : m "stack" = some (.ref SA)
  i : m "itstack" = some (.ref IA)
  e : m "seen" = some (.ref SE)
  d : m "node2stacki" = some (.ref DA)
omit [Lo] in
theorem NM.nd {m : Str → Option Value} {N SA IA SE DA : Addr} {v : Value} (x : NM m N SA IA SE DA) : NM (upd m "node" v) N SA IA SE DA := ⟨x.n, x.s, x.i, x.e, x.d⟩
omit [Lo] in
def sumE (es : List Ent) : Nat := (es.map fun e => e.sc.length - e.i + 1).sum
omit [Lo] in
def unsn (g : List Nd) (sn : List (List Nat)) : Nat := (g.filter fun n => !decide (n.wd ∈ sn)).length
omit [Lo] in
theorem is_str {w : World} {k : Str} {v : Value} (h : (strKind PW w).is k v = true) : ∃ t, v = .str k t := by
  cases v with
  | str x t =>
    have : (x == k) = true := h
    rw [beq_iff_eq] at this
    exact ⟨t, by rw [this]⟩
  | _ => cases h
omit [Lo] in
theorem FS.live {w : World} {hS hT h : Heap} {g : List Nd} {SA IA SE DA : Addr} {a : List (List Nat)} {b : List Addr} {c : List (List Nat)} {es : List Ent} {sn : List (List Nat)} (x : FS w hS hT h g SA IA SE DA a b c es sn) : ∀ z ∈ [SA, IA, SE, DA], ∃ o, h.get? z = some o := by
  obtain ⟨o1, e1, _⟩ := x.sv.obj
  obtain ⟨n2, e2⟩ := x.il
  obtain ⟨o3, e3, _⟩ := x.se.obj
  obtain ⟨kvs, D, _⟩ := x.dk
  obtain ⟨o4, e4, _⟩ := D.obj
  intro z hz
  simp only [List.mem_cons, List.not_mem_nil, or_false] at hz
  rcases hz with zq | zq | zq | zq
  · subst z; exact ⟨_, e1⟩
  · subst z; exact ⟨_, e2⟩
  · subst z; exact ⟨_, e3⟩
  · subst z; exact ⟨_, e4⟩
omit [Lo] in
theorem FS.toZ {w : World} {hS hT h h' : Heap} {g : List Nd} {SA IA SE DA : Addr} {a : List (List Nat)} {b : List Addr} {c : List (List Nat)} {sn : List (List Nat)} (x : FS w hS hT h g SA IA SE DA a b c [] sn) (k : ∀ b o, b ∈ [SA, IA, SE, DA] → o.cls ≠ .type "frame" → o.cls ≠ .type "cell" → h.get? b = some o → h'.get? b = some o) : FS w hS hT h' g SA IA SE DA a b c [] sn :=
  ⟨x.sv.at fun o q e => k _ _ (by simp) (kc q) (kc q) e, let ⟨n, e⟩ := x.il; ⟨n, k _ _ (by simp) (cn _ _ (by decide)) (cn _ _ (by decide)) e⟩,
    x.se.at fun o q e => k _ _ (by simp) (kc q) (kc q) e,
    let ⟨kvs, D, q⟩ := x.dk; ⟨kvs, D.at fun o q e => k _ _ (by simp) (kc q) (kc q) e, q⟩, (fun _ q => nomatch q), List.nodup_nil, x.ne, x.sy, x.f⟩
omit [Lo] in
theorem sv_snoc {us : List Value} {l : List (List Nat)} {a : List Nat} (h : SV us (l ++ [a])) : ∃ us0 u, us = us0 ++ [u] ∧ SV us0 l ∧ ∃ t, u = .str (S a) t := by
  induction l generalizing us with
  | nil =>
    cases h with
    | cons h1 h2 =>
      cases h2
      exact ⟨[], _, rfl, SV.nil, h1⟩
  | cons b l ih =>
    cases h with
    | cons h1 h2 =>
      obtain ⟨us0, u, rfl, a1, a2⟩ := ih h2
      exact ⟨_ :: us0, u, rfl, .cons h1 a1, a2⟩
omit [Lo] in
theorem val_some {kvs : List (Str × Value)} {k : Str} (h : k ∈ kvs.map (·.1)) : (valueAt kvs k).isSome = true := by
  obtain ⟨p, hp, rfl⟩ := List.mem_map.mp h
  unfold valueAt
  rw [Option.isSome_map, List.find?_isSome]
  exact ⟨p, hp, by simp⟩
omit [Lo] in
theorem keys_wo {kvs : List (Str × Value)} {l : List (List Nat)} {k : Str} (h : kvs.map (·.1) = l.map S ++ [k]) (n : ∀ y ∈ l.map S, y ≠ k) : (without kvs k).map (·.1) = l.map S := by
  have : (without kvs k).map (·.1) = (kvs.map (·.1)).filter fun y => decide (y ≠ k) := by
    unfold without
    induction kvs with
    | nil => rfl
    | cons p r _ =>
      clear h
      have aux : ∀ l : List (Str × Value), (l.filter fun kv => decide (kv.1 ≠ k)).map (·.1) = (l.map (·.1)).filter fun y => decide (y ≠ k) := by
        intro l
        induction l with
        | nil => rfl
        | cons a l ih =>
          rw [List.filter_cons, List.map_cons, List.filter_cons]
          split
          · rw [List.map_cons, ih]
          · exact ih
      exact aux _
  rw [this, h, List.filter_append, List.filter_eq_self.mpr fun y hy => by simpa using n y hy]
  simp
omit [Lo] in
theorem keys_st {kvs : List (Str × Value)} {es : List Ent} {e : Ent} {v : Value} (h : kvs.map (·.1) = (es.map Ent.wd).map S) (n : ∀ y ∈ (es.map Ent.wd).map S, y ≠ S e.wd) : (stored kvs (S e.wd) v).map (·.1) = ((es ++ [e]).map Ent.wd).map S := by
  unfold stored
  rw [if_neg]
  · rw [List.map_append, h]; simp
  · rw [List.any_eq_true]
    rintro ⟨p, hp, q⟩
    exact n p.1 (h ▸ List.mem_map.mpr ⟨p, hp, rfl⟩) (by simpa using q)
omit [Lo] in
theorem unsn_push {g : List Nd} {sn : List (List Nat)} {wd : List Nat} (h : wd ∈ g.map Nd.wd) (n : wd ∉ sn) : unsn g (sn ++ [wd]) + 1 ≤ unsn g sn := by
  obtain ⟨n0, hn0, rfl⟩ := List.mem_map.mp h
  obtain ⟨l, r, rfl⟩ := ab_split hn0
  unfold unsn
  rw [List.filter_append, List.filter_append, List.filter_cons, List.filter_cons, if_neg (by simp), if_pos (by simpa using n), List.length_append, List.length_append, List.length_cons]
  have : ∀ l : List Nd, (l.filter fun n => !decide (n.wd ∈ sn ++ [n0.wd])).length ≤ (l.filter fun n => !decide (n.wd ∈ sn)).length := by
    intro l
    induction l with
    | nil => exact Nat.le_refl _
    | cons a l ih =>
      rw [List.filter_cons, List.filter_cons]
      by_cases q : a.wd ∈ sn
      · rw [if_neg (by simp [q]), if_neg (by simp [q])]; exact ih
      · rw [if_pos (c := (!decide (a.wd ∈ sn)) = true) (by simpa using q), List.length_cons]
        split
        · rw [List.length_cons]; (first | lia | omega)
        · (first | lia | omega)
  have a1 := this l
  have a2 := this r
  (first | lia | omega)
/-- between the turns over the graph's words -/
inductive CyJ (w : World) (hS hT : Heap) (g : List Nd) (N SA IA SE DA I : Addr) (m : Str → Option Value) (h : Heap) : Prop
  | mk (nm : NM m N SA IA SE DA) (hI : I ∉ [SA, IA, SE, DA]) (sn : List (List Nat)) (F : FS w hS hT h g SA IA SE DA [] [] [] [] sn) (le : sn.length + unsn g sn ≤ 900) : CyJ w hS hT g N SA IA SE DA I m h
/-- between the turns of the search -/
inductive CyO (w : World) (hS : Heap) (env : Env) (g : List Nd) (N SA IA SE DA : Addr) (s₂ : Shared) (k : Nat) (s' : Shared) : Prop
  | mk (h : Heap) (t : Nat) (m cm : Str → Option Value) (wd : List Nat) (tw : Tok) (es : List Ent) (sn : List (List Nat)) (e : s' = { s₂ with heap := h, toks := t }) (X : Bd hS env m cm h) (nm : NM m N SA IA SE DA) (nd : m "node" = some (.str (S wd) tw))
    (F : FS w hS s₂.heap h g SA IA SE DA (es.map Ent.wd) (es.map Ent.b) (es.map Ent.wd) es sn) (hw : wd ∈ g.map Nd.wd) (hes : ∀ e ∈ es, e.wd.length < wd.length) (em : es = [] → wd ∉ sn) (ch : (es.map fun e => e.wd.length).Pairwise (· < ·)) (z : Kz [SA, IA, SE, DA] s₂.heap h)
    (h1 : sn.length + unsn g sn ≤ 900) (h2 : es.length ≤ sn.length) (h3 : sumE es + unsn g sn * 2000 ≤ k) : CyO w hS env g N SA IA SE DA s₂ k s'
/-- behind the push -/
inductive CyM (w : World) (hS : Heap) (env : Env) (g : List Nd) (N SA IA SE DA : Addr) (s₂ : Shared) (k : Nat) (f : Flow) (s' : Shared) : Prop
  | mk (ef : f = .next) (h : Heap) (t : Nat) (m cm : Str → Option Value) (es : List Ent) (sn : List (List Nat)) (e : s' = { s₂ with heap := h, toks := t }) (X : Bd hS env m cm h) (nm : NM m N SA IA SE DA)
    (F : FS w hS s₂.heap h g SA IA SE DA (es.map Ent.wd) (es.map Ent.b) (es.map Ent.wd) es sn) (ch : (es.map fun e => e.wd.length).Pairwise (· < ·)) (z : Kz [SA, IA, SE, DA] s₂.heap h)
    (h1 : sn.length + unsn g sn ≤ 900) (h2 : es.length ≤ sn.length) (h3 : sumE es + unsn g sn * 2000 ≤ k) : CyM w hS env g N SA IA SE DA s₂ k f s'
/-- between the turns of the way back -/
inductive CyN (w : World) (hS : Heap) (env : Env) (g : List Nd) (N SA IA SE DA : Addr) (s₂ : Shared) (sn : List (List Nat)) (es3 : List Ent) (n : Nat) (s' : Shared) : Prop
  | mk (h : Heap) (t : Nat) (m cm : Str → Option Value) (es : List Ent) (e : s' = { s₂ with heap := h, toks := t }) (X : Bd hS env m cm h) (nm : NM m N SA IA SE DA)
    (F : FS w hS s₂.heap h g SA IA SE DA (es.map Ent.wd) (es.map Ent.b) (es.map Ent.wd) es sn) (ch : (es.map fun e => e.wd.length).Pairwise (· < ·)) (z : Kz [SA, IA, SE, DA] s₂.heap h)
    (h2 : es.length ≤ sn.length) (h3 : sumE es ≤ sumE es3) (h4 : n = sumE es) : CyN w hS env g N SA IA SE DA s₂ sn es3 n s'
omit [Lo] in
theorem nil_snoc {α : Type} (l : List α) : l = [] ∨ ∃ p e, l = p ++ [e] := by
  rcases List.eq_nil_or_concat l with h | ⟨p, e, h⟩
  · exact .inl h
  · exact .inr ⟨p, e, by rw [h, List.concat_eq_append]⟩
omit [Lo] in
noncomputable def f212 (w : World) : Fn w 212 := ⟨_, _, _, _, rfl⟩
set_option maxHeartbeats 4000000 in
/-- _find_cycle -/
theorem c_cyc {w : World} {A : Around} {E : Value → Shared → Prop} {s : Shared} {Q : Value → Shared → Prop} {d : Nat} {h₀ : Heap} (C : Cx w s.heap) (R : Rm A (d + 2) s.heap) {x dx N : Addr} {c : Nat} {m : Str → Option Value} {g : List Nd}
    (G : GS w h₀ s.heap x dx N c m g) (hN : m "_node2info" = some (.ref N)) (hlen : g.length ≤ 900) (hsc : ∀ n ∈ g, n.sc.length ≤ 900 ∧ ∀ y ∈ n.sc, y ∈ g.map Nd.wd ∧ n.wd.length < y.length)
    (h : ∀ h' t', Kp s.heap h' → Q .none { s with heap := h', toks := t' }) :
    wpAny (model PW w) A (call (.ref 212) [.ref x]) Q E s := by
  refine' callK (f212 w) (d := d + 1) [("self", .ref x)] (upd (fun _ => none) "self" (.ref x)) (fun _ => none) C R ?h2 ?h3 ?h4 ?h5 ?h6 ?h7 ?h8 ?h9 ?h10 ?h11 ?_
  case h2 => rfl
  case h3 => rfl
  case h4 => rfl
  case h5 => rfl
  case h6 => rfl
  case h7 => rfl
  case h8 => rfl
  case h9 => intro _; rfl
  case h10 => intro _; rfl
  case h11 => rfl
  intro L h₁ t₁ E' X R' C'
  refine no_exc ?_
  refine cutQ fun P₀ hP₀ => ?_
  have G1 := G.kp X.keep
  ktr_unf
  refine Attribute_Name_ ?_
  refine nm_loc X.ev (by rfl) ?_
  refine own_get (o_n2i w) C' G1.T hN rfl ?_
  refine st_loc X fun h2 X2 k2 => ?_
  ktr_unf
  refine new_list (fun SA h3 e3 k3 nSA pSA => ?_) (by rw [sizeLine_is]; exact Nat.le_of_ble_eq_true rfl)
  refine st_loc (X2.kp k3) fun h4 X4 k4 => ?_
  have pSA4 := pl_ko pSA k4
  ktr_unf
  refine new_list (fun IA h5 e5 k5 nIA pIA => ?_) (by rw [sizeLine_is]; exact Nat.le_of_ble_eq_true rfl)
  have pSA5 := pl_kp pSA4 k5
  refine st_loc (X4.kp k5) fun h6 X6 k6 => ?_
  have pIA6 := pl_ko pIA k6
  have pSA6 := pl_ko pSA5 k6
  ktr_unf
  refine nm_blt (v := .type "set") (X6.cx C) (by rfl) rfl ?_
  refine PyProof.Rows.callWith_type0 ?_
  refine new_ss fun SE h7 k7 nSE sSE => ?_
  have pSA7 := pl_kp pSA6 k7
  have pIA7 := pl_kp pIA6 k7
  refine st_loc (X6.kp k7) fun h8 X8 k8 => ?_
  have pSA8 := pl_ko pSA7 k8
  have pIA8 := pl_ko pIA7 k8
  have sSE8 := SS.at sSE fun o q e => k8 _ _ e (kc q) (kc q)
  ktr_unf
  refine wpAny_Dict_empty ?_
  dsimp only
  generalize hDA : h8.objs.size = DA
  have k9 : Kp h8 (h8.push { cls := .type "dict", data := .dict #[] }) := Kp.push _ _
  have D9 : DK w (h8.push { cls := .type "dict", data := .dict #[] }) DA [] := by rw [← hDA]; exact Heap.DictOf.new _
  have nDA : h8.get? DA = none := by rw [← hDA]; exact size_none _
  have syDA : (DA == sysModules) = false := by
    have := modules_low (X8.cx C).l
    rw [hDA] at this
    rw [beq_eq_false_iff_ne]; exact Nat.ne_of_gt this
  generalize (h8.push { cls := .type "dict", data := .dict #[] }) = h9 at k9 D9
  have pSA9 := pl_kp pSA8 k9
  have pIA9 := pl_kp pIA8 k9
  have sSE9 := SS.at sSE8 fun o q e => k9.off _ _ e (kc q)
  refine st_loc (X8.kp k9) fun h10 X10 k10 => ?_
  have neSI : SA ≠ IA := pne pSA4 nIA
  have F10 : FS w s.heap h10 h10 g SA IA SE DA [] [] [] [] [] :=
    ⟨⟨[], pl_ko pSA9 k10, SV.nil⟩, pl_ko pIA9 k10, SS.at sSE9 fun o q e => k10 _ _ e (kc q) (kc q), ⟨[], dk_ko D9 k10, rfl⟩, (fun _ q => nomatch q), List.nodup_nil, neSI, syDA,
      X2.keep.none nSA, X4.keep.none nIA, X6.keep.none nSE, X8.keep.none nDA⟩
  have G10 := G.kp X10.keep
  have NM10 : NM (upd (upd (upd (upd (upd (upd (fun _ => none) "self" (.ref x)) "n2i" (.ref N)) "stack" (.ref SA)) "itstack" (.ref IA)) "seen" (.ref SE)) "node2stacki" (.ref DA)) N SA IA SE DA := ⟨rfl, rfl, rfl, rfl, rfl⟩
  have X10 : Bd s.heap _ (upd (upd (upd (upd (upd (upd (fun _ => none) "self" (.ref x)) "n2i" (.ref N)) "stack" (.ref SA)) "itstack" (.ref IA)) "seen" (.ref SE)) "node2stacki" (.ref DA)) _ h10 := X10
  generalize (upd (upd (upd (upd (upd (upd (fun _ => none) "self" (.ref x)) "n2i" (.ref N)) "stack" (.ref SA)) "itstack" (.ref IA)) "seen" (.ref SE)) "node2stacki" (.ref DA)) = m10 at NM10 X10
  have zf : ∀ z ∈ [SA, IA, SE, DA], s.heap.get? z = none := by
    obtain ⟨f1, f2, f3, f4⟩ := F10.f
    intro z hz
    simp only [List.mem_cons, List.not_mem_nil, or_false] at hz
    rcases hz with q | q | q | q <;> (subst z; assumption)
  obtain ⟨oN, eN, cN⟩ := DK.obj G.D
  ktr_unf
  refine for_rule (h₀ := s.heap) (binds_loc (by rfl) (by rfl)) ?_
  refine nm_loc X10.ev (by exact NM10.n) ?_
  refine ⟨_, _, _, _, _, [SA, IA, SE, DA], fun I i m₁ cm₁ h => CyJ w s.heap h10 g N SA IA SE DA I m₁ h,
    X10, src_keys (X10.rm R).hd G10.sy G10.D, ?_, ?_, ⟨NM10, ?_, [], F10, ?_⟩, ?_, ?_⟩
  · intro z hz
    refine ⟨fun q => ?_, F10.live z hz⟩
    rw [List.mem_singleton] at q
    have := zf z hz
    rw [q, eN] at this; cases this
  · rintro I i m₁ cm₁ h h' k ⟨a1, a2, sn, a3, a4⟩
    refine ⟨a1, a2, sn, a3.toZ fun b o hb n1 n2 e => k b o (fun q => a2 (q ▸ hb)) e n1 n2, a4⟩
  · intro q; obtain ⟨o, e⟩ := F10.live _ q; rw [size_none] at e; cases e
  · unfold unsn; exact Nat.le_trans (by simpa using List.length_filter_le _ _) hlen
  · rintro I i v m₁ cm₁ s₂ E'' hi ⟨kN, xN, hkv, his⟩ hI ⟨oI, hIl, nI1, nI2⟩ X11 k11 ⟨nm11, hI11, sn, F11, hsn⟩
    refine cutQ fun P₀ hP₀ => ?_
    obtain ⟨n0, hn0, rfl⟩ : ∃ n0 ∈ g, kN = S n0.wd := by
      rw [List.getElem?_map] at hkv
      cases q : g[i]? with
      | none => rw [q] at hkv; cases hkv
      | some n0 => rw [q] at hkv; cases hkv; exact ⟨n0, List.mem_of_getElem? q, rfl⟩
    obtain ⟨t0, rfl⟩ := is_str his
    have hw0 : n0.wd ∈ g.map Nd.wd := List.mem_map.mpr ⟨n0, hn0, rfl⟩
    generalize n0.wd = wd0 at X11 hw0
    refine no_exc ?_
    ktr_unf
    refine nm_loc X11.ev (by rfl) ?_
    ktr_unf
    refine nm_loc X11.ev (by exact nm11.e) ?_
    refine in_ss F11.se fun tk => ?_
    ktr_unf
    by_cases hw : wd0 ∈ sn
    · first | refine pif_t (by simpa using hw) ?_ | refine wif_t (by simpa using hw) ?_ | rw [if_pos (by simpa using hw)]
      refine wpAny_execs_cons ?_
      refine wpAny_Continue ?_
      ktr_unf
      exact ⟨_, _, _, _, rfl, X11, kz_refl, nm11.nd, hI11, sn, F11, hsn⟩
    · first | refine pif_f (by simpa using hw) ?_ | refine wif_f (by simpa using hw) ?_ | rw [if_neg (by simpa using hw)]
      ktr_unf
      have F11' : FS w s.heap s₂.heap s₂.heap g SA IA SE DA [] [] [] [] sn := ⟨F11.sv, F11.il, F11.se, F11.dk, (fun _ q => nomatch q), List.nodup_nil, F11.ne, F11.sy, F11.f⟩
      refine while_rule PassesOwn.never (CyO w s.heap (envF (f212 w) L) g N SA IA SE DA s₂)
        (unsn g sn * 2000) ⟨_, _, _, _, wd0, t0, [], sn, rfl, X11, nm11.nd, rfl, F11', hw0, (fun _ q => nomatch q), fun _ => hw, List.Pairwise.nil, kz_refl, hsn, Nat.zero_le _, by simp [sumE]⟩ ?_
      rintro k s' ⟨h12, t12, m12, cm12, wd, tw, es, sn2, rfl, X12, nm12, hnode, F12, hwd, hes, hemp, hch12, z12, hsn2, hel, hk⟩
      refine cutQ fun P₀ hP₀ => ?_
      refine isTrue_plain ?_
      refine wpAny_Constant_bool ?_
      refine wpAny_truthy_bool ?_
      refine hP₀ _ _ ?_
      first | refine pif_t rfl ?_ | refine wif_t rfl ?_ | rw [if_pos rfl]
      refine wpAny_execs_cons ?_
      refine wpAny_mono (Q := CyM w s.heap (envF (f212 w) L) g N SA IA SE DA s₂ k) ?_ ?_ (fun _ _ e => e)
      · obtain ⟨kvs12, D12, ek12⟩ := F12.dk
        ktr_unf
        refine nm_loc X12.ev (by exact hnode) ?_
        ktr_unf
        refine nm_loc X12.ev (by exact nm12.e) ?_
        refine in_ss F12.se fun tk => ?_
        ktr_unf
        have hnk : ∀ y ∈ (es.map Ent.wd).map S, y ≠ S wd := by
          intro y hy q
          obtain ⟨z, hz, rfl⟩ := List.mem_map.mp hy
          obtain ⟨e', he', rfl⟩ := List.mem_map.mp hz
          have := hes e' he'
          rw [S_inj q] at this
          exact Nat.lt_irrefl _ this
        by_cases hw2 : wd ∈ sn2
        · first | refine pif_t (by simpa using hw2) ?_ | refine wif_t (by simpa using hw2) ?_ | rw [if_pos (by simpa using hw2)]
          ktr_unf
          refine nm_loc X12.ev (by exact hnode) ?_
          ktr_unf
          refine nm_loc X12.ev (by exact nm12.d) ?_
          refine in_dk F12.sy D12 fun tk2 => ?_
          have hv : (valueAt kvs12 (S wd)).isSome = false := by
            cases q : (valueAt kvs12 (S wd)) with
            | none => rfl
            | some v =>
              exfalso
              unfold valueAt at q
              obtain ⟨p, hp, rfl⟩ := Option.map_eq_some_iff.mp q
              have h1 := List.find?_some hp
              refine hnk p.1 (ek12 ▸ List.mem_map.mpr ⟨p, List.mem_of_find?_eq_some hp, rfl⟩) (by simpa using h1)
          rw [hv]
          ktr_unf
          first | refine pif_f (by decide) ?_ | refine wif_f (by decide) ?_ | rw [if_neg (by decide)]
          ktr_unf
          exact ⟨rfl, h12, _, m12, cm12, es, sn2, rfl, X12, nm12, F12, hch12, z12, hsn2, hel, hk⟩
        · first | refine pif_f (by simpa using hw2) ?_ | refine wif_f (by simpa using hw2) ?_ | rw [if_neg (by simpa using hw2)]
          ktr_unf
          refine wpAny_Expr_any ?_
          ktr_unf
          refine nm_loc X12.ev (by exact nm12.e) ?_
          refine meth_ss F12.se ?_
          ktr_unf
          refine nm_loc X12.ev (by exact hnode) ?_
          ktr_unf
          refine add_ss F12.se (by (first | lia | omega)) fun h13 t13 ss13 s13 => ?_
          have F13 := F12.setE s13 ss13
          have X13 := X12.but s13 F12.f.2.2.1 (let ⟨o, q, c⟩ := F12.se.obj; ⟨o, q, by rw [c]; exact cn _ _ (by decide), by rw [c]; exact cn _ _ (by decide)⟩)
          have G13 := G.kp X13.keep
          obtain ⟨l, n, r, eg, en, ev⟩ := val_at hwd
          have hn13 : n ∈ g := by rw [eg]; exact List.mem_append_right _ List.mem_cons_self
          obtain ⟨tw', tn, J13⟩ := (G13.nd n hn13).at_
          have D13 := (G13.nd n hn13).own
          have hdn : n.d ≠ n.a := fun q => by rw [q, J13] at D13; cases D13
          obtain ⟨vs, pvs, svs⟩ := (G13.nd n hn13).succ
          have C13 := X13.cx C
          ktr_unf
          refine wpAny_Expr_any ?_
          ktr_unf
          refine nm_loc X13.ev (by exact nm12.i) ?_
          refine meth_L PySem.F.slot_list_append PySem.F.type_list_append F13.il ?_
          ktr_unf
          refine Attribute_any_ ?_
          ktr_unf
          refine nm_blt (v := .builtin "iter") C13 (by rfl) rfl ?_
          ktr_unf
          refine Attribute_any_ ?_
          ktr_unf
          refine nm_loc X13.ev (by exact nm12.n) ?_
          ktr_unf
          refine nm_loc X13.ev (by exact hnode) ?_
          refine sub_dk G13.D ev ?_
          refine get_at (s_succ w) C13 ⟨n.d, J13, D13, hdn⟩ (by rfl) (by rfl) ?_
          ktr_unf
          refine iter_list pvs fun it h14 k14 n14 li14 => ?_
          refine get_linext li14 fun b h15 k15 n15 eb15 => ?_
          ktr_unf
          have li15 := li14.kp k15
          have X15 := (X13.kp k14).kp k15
          have F15 : FS w s.heap s₂.heap h15 g SA IA SE DA (es.map Ent.wd) (es.map Ent.b) (es.map Ent.wd) (es ++ [⟨wd, n.u, it, b, 0, n.sc⟩]) (sn2 ++ [wd]) := by
            refine F13.addE (k14.trans k15) n14 ⟨eb15, li15, X13.keep.none n14, fun o e => ?_, ⟨n, hn13, en, rfl, rfl⟩, Nat.zero_le _⟩
            by_cases q1 : o.cls = .type "frame"
            · exact .inl q1
            by_cases q2 : o.cls = .type "cell"
            · exact .inr q2
            exfalso
            by_cases hz : it ∈ [SA, IA, SE, DA]
            · obtain ⟨o', e'⟩ := F13.live _ hz
              rw [n14] at e'; cases e'
            · have := s13.extBut _ _ (fun q => hz (by rw [q]; simp)) (z12 _ _ hz e q1 q2)
              rw [n14] at this; cases this
          refine app_L F15.il (by rw [List.length_map, List.length_map]; (first | lia | omega)) fun h16 p16 s16 => ?_
          have p16' : h16.PlainList IA (((es ++ [(⟨wd, n.u, it, b, 0, n.sc⟩ : Ent)]).map Ent.b).map fun e => Value.ref e).toArray := by simpa using p16
          have F16 := F15.setI s16 p16'
          have X16 := X15.but s16 F15.f.2.1 (let ⟨_, q⟩ := F15.il; ⟨_, q, cn _ _ (by decide), cn _ _ (by decide)⟩)
          obtain ⟨kvs16, D16, ek16⟩ := F16.dk
          obtain ⟨us16, pus16, sus16⟩ := F16.sv
          have husl : us16.length = es.length := by rw [sus16.length, List.length_map]
          ktr_unf
          refine wpAny_Assign_Subscript ?_
          ktr_unf
          refine nm_blt (v := .builtin "len") (X16.cx C) (by rfl) rfl ?_
          ktr_unf
          refine nm_loc X16.ev (by exact nm12.s) ?_
          ktr_unf
          refine len_L pus16 (by (first | lia | omega)) ?_
          refine nm_loc X16.ev (by exact nm12.d) ?_
          refine nm_loc X16.ev (by exact hnode) ?_
          refine wpAny_setItem_pairs (strKind_is PW w _ _) D16 (fun h17 D17 s17 => ?_) (by have := congrArg List.length ek16; rw [List.length_map, List.length_map, List.length_map] at this; rw [sizeLine_is]; (first | lia | omega))
          have hst : ∀ v, (stored kvs16 (S wd) v).map (·.1) = ((es ++ [(⟨wd, n.u, it, b, 0, n.sc⟩ : Ent)]).map Ent.wd).map S := fun v => keys_st (e := ⟨wd, n.u, it, b, 0, n.sc⟩) ek16 hnk
          have F17 := F16.setD s17 ⟨_, D17, hst _⟩
          have X17 := X16.but s17 F16.f.2.2.2 (let ⟨o, q, c⟩ := D16.obj; ⟨o, q, by rw [c]; exact cn _ _ (by decide), by rw [c]; exact cn _ _ (by decide)⟩)
          obtain ⟨us17, pus17, sus17⟩ := F17.sv
          ktr_unf
          refine wpAny_Expr_any ?_
          ktr_unf
          refine nm_loc X17.ev (by exact nm12.s) ?_
          refine meth_L PySem.F.slot_list_append PySem.F.type_list_append pus17 ?_
          ktr_unf
          refine nm_loc X17.ev (by exact hnode) ?_
          ktr_unf
          refine app_L pus17 (by rw [sus17.length, List.length_map]; (first | lia | omega)) fun h18 p18 s18 => ?_
          have F18 := F17.setS (a' := (es ++ [(⟨wd, n.u, it, b, 0, n.sc⟩ : Ent)]).map Ent.wd) s18 ⟨_, p18, by rw [List.map_append]; exact sus17.snoc⟩
          have X18 := X17.but s18 F17.f.1 (let ⟨_, q⟩ := pus17; ⟨_, q, cn _ _ (by decide), cn _ _ (by decide)⟩)
          ktr_unf
          refine ⟨rfl, h18, _, m12, cm12, es ++ [⟨wd, n.u, it, b, 0, n.sc⟩], sn2 ++ [wd], rfl, X18, nm12, F18, ?_, ?_, ?_, ?_, ?_⟩
          · rw [List.map_append, List.pairwise_append]
            refine ⟨hch12, List.pairwise_singleton _ _, fun a ha b' hb' => ?_⟩
            obtain ⟨e', he', rfl⟩ := List.mem_map.mp ha
            rw [List.map_singleton, List.mem_singleton] at hb'
            rw [hb']
            exact hes e' he'
          · intro b' o hb e' n1 n2
            have hb' := hb
            simp only [List.mem_cons, List.not_mem_nil, or_false, not_or] at hb'
            exact s18.extBut _ _ hb'.1 (s17.extBut _ _ hb'.2.2.2 (s16.extBut _ _ hb'.2.1 (k15.off _ _ (k14.off _ _ (s13.extBut _ _ hb'.2.2.1 (z12 b' o hb e' n1 n2)) n1) n1)))
          · have := unsn_push hwd hw2
            rw [List.length_append, List.length_singleton]; (first | lia | omega)
          · rw [List.length_append, List.length_append]; exact Nat.add_le_add_right hel _
          · have := unsn_push hwd hw2
            have hs := (hsc n hn13).1
            have : sumE (es ++ [(⟨wd, n.u, it, b, 0, n.sc⟩ : Ent)]) = sumE es + (n.sc.length + 1) := by
              unfold sumE
              rw [List.map_append, List.sum_append]
              simp
            (first | lia | omega)
      · rintro f s' ⟨rfl, h13, t13, m13, cm13, es3, sn3, rfl, X13, nm13, F13, hch, z13, hsn3, hel3, hk3⟩
        dsimp only
        ktr_unf
        refine while_rule PassesOwn.never (CyN w s.heap (envF (f212 w) L) g N SA IA SE DA s₂ sn3 es3)
          (sumE es3) ⟨_, _, _, _, es3, rfl, X13, nm13, F13, hch, z13, hel3, Nat.le_refl _, rfl⟩ ?_
        rintro n s' ⟨h14, t14, m14, cm14, es4, rfl, X14, nm14, F14, hch4, z14, hel4, hsum4, rfl⟩
        refine cutQ fun P₀ hP₀ => ?_
        have C14 := X14.cx C
        obtain ⟨us, pus, sus⟩ := F14.sv
        have husl : us.length = es4.length := by rw [sus.length, List.length_map]
        refine isTrue_plain ?_
        refine nm_loc X14.ev (by exact nm14.s) ?_
        refine truthy_L pus (by (first | lia | omega)) ?_
        rcases nil_snoc es4 with rfl | ⟨pre, e, rfl⟩
        · have : us = [] := by simpa using husl
          subst this
          refine hP₀ _ _ ?_
          first | refine pif_f (by simp) ?_ | refine wif_f (by simp) ?_ | rw [if_neg (by simp)]
          refine wpAny_execs_cons ?_
          refine wpAny_Break ?_
          ktr_unf
          exact ⟨_, _, _, _, rfl, X14, z14, nm14, hI11, sn3, ⟨F14.sv, F14.il, F14.se, F14.dk, (fun _ q => nomatch q), List.nodup_nil, F14.ne, F14.sy, F14.f⟩, hsn3⟩
        · have hne : us ≠ [] := by rintro rfl; simp at husl
          refine hP₀ _ _ ?_
          first | refine pif_t (by simpa using hne) ?_ | refine wif_t (by simpa using hne) ?_ | rw [if_pos (by simpa using hne)]
          have he : e ∈ pre ++ [e] := List.mem_append_right _ List.mem_cons_self
          obtain ⟨eb, eit, enS, eitn, ⟨ne, hne4, en1, en2, en3⟩, ei⟩ := F14.ent e he
          have G14 := G.kp X14.keep
          obtain ⟨vs, pvs, svs⟩ := (G14.nd ne hne4).succ
          rw [en2] at pvs
          rw [en3] at svs
          obtain ⟨hsc1, hsc2⟩ := hsc ne hne4
          rw [en3] at hsc1 hsc2
          rw [en1] at hsc2
          have pI := F14.il
          rw [List.map_append, List.map_append] at pI
          refine wpAny_execs_cons ?_
          refine try_stop C R (by rfl) (by rfl) (by rfl) (by rfl) (by rfl) ?_
          refine wpAny_execs_cons ?_
          refine wpAny_Assign_Name ?_
          refine Call_ ?_
          ktr_unf
          refine nm_loc X14.ev (by exact nm14.i) ?_
          ktr_unf
          refine neg_int ?_
          refine sub_last pI (by rw [List.length_map, List.length_map]; have := hel4; rw [List.length_append] at this; (first | lia | omega)) ?_
          have ib : IsB h14 e.b "list_iterator.__next__" e.it := ⟨_, .inr rfl, eb⟩
          refine callW0 ib ?_
          refine cutQ fun P₁ hP₁ => ?_
          cases hx : vs[e.i]? with
          | some xv =>
            obtain ⟨wd', tw', hw', rfl⟩ := svs.get hx
            refine bound_item ib eit pvs hx fun h15 L15 s15 => ?_
            have itZ : ∀ z ∈ [SA, IA, SE, DA], z ≠ e.it := fun z hz q => by
              obtain ⟨o1, e1, _⟩ := F14.sv.obj
              obtain ⟨o2, e2⟩ := F14.il
              obtain ⟨o3, e3, c3⟩ := F14.se.obj
              obtain ⟨kvs4, D4, _⟩ := F14.dk
              obtain ⟨o4, e4, c4⟩ := D4.obj
              simp only [List.mem_cons, List.not_mem_nil, or_false] at hz
              rcases hz with zq | zq | zq | zq
              · rw [zq] at q; obtain ⟨_, ⟨_, q1⟩, _⟩ := F14.sv; exact neq eit q1 rfl rfl (by decide) q
              · rw [zq] at q; exact neq eit e2 rfl rfl (by decide) q
              · rw [zq] at q; exact neq eit e3 rfl c3 (by decide) q
              · rw [zq] at q; exact neq eit e4 rfl c4 (by decide) q
            have hei : e.i + 1 ≤ e.sc.length := by
              rcases Nat.lt_or_ge e.i e.sc.length with q | q
              · (first | lia | omega)
              · rw [List.getElem?_eq_none q] at hw'; cases hw'
            have F15 := F14.setN s15 L15 hei
            have X15 := X14.but s15 enS ⟨_, eit, cn _ _ (by decide), cn _ _ (by decide)⟩
            refine hP₁ _ _ ?_
            refine st_loc X15 fun h16 X16 k16 => ?_
            have F16 := F15.ko k16
            refine wpAny_execs_cons ?_
            refine wpAny_Break ?_
            ktr_unf
            have hwy := hsc2 wd' (List.mem_of_getElem? hw')
            have hse : sumE (pre ++ [{ e with i := e.i + 1 }]) + 1 = sumE (pre ++ [e]) := by
              unfold sumE
              rw [List.map_append, List.map_append, List.sum_append, List.sum_append]
              simp only [List.map_cons, List.map_nil, List.sum_cons, List.sum_nil]
              (first | lia | omega)
            refine ⟨sumE (pre ++ [{ e with i := e.i + 1 }]) + unsn g sn3 * 2000, by (first | lia | omega), h16, _, _, _, wd', tw', pre ++ [{ e with i := e.i + 1 }], sn3, rfl, X16, nm14.nd, rfl, ?_, hwy.1, ?_, ?_, ?_, ?_, hsn3, ?_, Nat.le_refl _⟩
            · simpa using F16
            · intro y hy
              rcases List.mem_append.mp hy with hy | hy
              · refine Nat.lt_trans ?_ hwy.2
                rw [List.map_append, List.pairwise_append] at hch4
                exact hch4.2.2 _ (List.mem_map.mpr ⟨y, hy, rfl⟩) _ (List.mem_map.mpr ⟨e, List.mem_singleton_self _, rfl⟩)
              · rw [List.mem_singleton.mp hy]; exact hwy.2
            · intro q; simp at q
            · simpa using hch4
            · intro b o hb e' n1 n2
              refine k16 _ _ (s15.extBut _ _ (fun q => ?_) (z14 b o hb e' n1 n2)) n1 n2
              rw [q] at e'; exact (eitn _ e').elim n1 n2
            · simpa using hel4
          | none =>
            refine bound_end (X14.rm R).hd ib eit pvs hx fun h15 e15 ne15 k15 => ?_
            obtain ⟨n15, t15, ee15⟩ := ne15
            have X15 : Bd s.heap (envF (f212 w) L) m14 cm14 h15 := X14.ex k15 enS ⟨_, eit, cn _ _ (by decide), cn _ _ (by decide)⟩
            refine ⟨e15, m14, cm14, rfl, X14.keep.none n15, X15, ⟨t15, ee15⟩, fun h16 E16 k16 => ?_⟩
            have kk : ∀ b o, b ≠ e.it → o.cls ≠ .type "frame" → h14.get? b = some o → h16.get? b = some o := fun b o hb nf q => by
              refine k16.off _ _ ((wo_get ?_).trans (k15 b o hb q)) nf
              rw [List.mem_singleton]; rintro rfl; rw [n15] at q; cases q
            have F16 := F14.popN kk
            have X16 : Bd s.heap (envF (f212 w) L) m14 cm14 h16 := (X15.woZ (Z := [e15]) (fun z hz => by rw [List.mem_singleton.mp hz]; exact ⟨_, ee15, cn _ _ (by decide), cn _ _ (by decide)⟩) (fun z hz => by rw [List.mem_singleton.mp hz]; exact X14.keep.none n15)).kp k16
            obtain ⟨us16, pus16, sus16⟩ := F16.sv
            rw [List.map_append, List.map_singleton] at sus16
            obtain ⟨us0, ul, rfl, sus0, tul, rfl⟩ := sv_snoc sus16
            refine wpAny_execs_cons ?_
            refine wpAny_Delete ?_
            refine wpAny_deleteEach_cons ?_
            refine delete_Subscript ?_
            refine nm_loc X16.ev (by exact nm14.d) ?_
            ktr_unf
            refine nm_loc X16.ev (by exact nm14.s) ?_
            refine meth_L PySem.F.slot_list_pop PySem.F.type_list_pop pus16 ?_
            ktr_unf
            have hus0 : us0.length ≤ 100000 := by have := sus0.length; rw [List.length_map] at this; have := hel4; rw [List.length_append] at this; (first | lia | omega)
            refine pop_L pus16 hus0 fun h17 p17 s17 => ?_
            have F17 := F16.setS s17 ⟨_, p17, sus0⟩
            have X17 := X16.but s17 F16.f.1 (let ⟨_, q⟩ := pus16; ⟨_, q, cn _ _ (by decide), cn _ _ (by decide)⟩)
            obtain ⟨kvs17, D17, ek17⟩ := F17.dk
            rw [List.map_append, List.map_append, List.map_singleton, List.map_singleton] at ek17
            have klen : kvs17.length ≤ 100000 := by
              have := congrArg List.length ek17
              rw [List.length_map, List.length_append, List.length_map, List.length_map, List.length_singleton] at this
              have := hel4; rw [List.length_append, List.length_singleton] at this; (first | lia | omega)
            have hnk : ∀ y ∈ (pre.map Ent.wd).map S, y ≠ S e.wd := by
              intro y hy q
              obtain ⟨z, hz, rfl⟩ := List.mem_map.mp hy
              obtain ⟨e', he', rfl⟩ := List.mem_map.mp hz
              have := S_inj q
              rw [List.map_append, List.pairwise_append] at hch4
              have h2 := hch4.2.2 _ (List.mem_map.mpr ⟨e', he', rfl⟩) _ (List.mem_map.mpr ⟨e, List.mem_singleton_self _, rfl⟩)
              rw [this] at h2
              exact Nat.lt_irrefl _ h2
            refine del_dk D17 (val_some (by rw [ek17]; simp)) klen fun h18 t18 D18 s18 => ?_
            have F18 := F17.setD s18 ⟨_, D18, keys_wo ek17 hnk⟩
            have X18 := X17.but s18 F17.f.2.2.2 (let ⟨o, q, c⟩ := D17.obj; ⟨o, q, by rw [c]; exact cn _ _ (by decide), by rw [c]; exact cn _ _ (by decide)⟩)
            refine wpAny_deleteEach_nil ?_
            refine wpAny_execs_cons ?_
            refine wpAny_Expr_any ?_
            ktr_unf
            refine nm_loc X18.ev (by exact nm14.i) ?_
            have pI18 := F18.il
            rw [List.map_append, List.map_append] at pI18
            refine meth_L PySem.F.slot_list_pop PySem.F.type_list_pop pI18 ?_
            ktr_unf
            refine pop_L pI18 (by rw [List.length_map, List.length_map]; have := hel4; rw [List.length_append] at this; (first | lia | omega)) fun h19 p19 s19 => ?_
            have F19 := F18.setI s19 p19
            have X19 := X18.but s19 F18.f.2.1 (let ⟨_, q⟩ := pI18; ⟨_, q, cn _ _ (by decide), cn _ _ (by decide)⟩)
            ktr_unf
            have hse : sumE pre < sumE (pre ++ [e]) := by
              unfold sumE
              rw [List.map_append, List.sum_append]
              simp only [List.map_cons, List.map_nil, List.sum_cons, List.sum_nil]
              (first | lia | omega)
            refine ⟨sumE pre, hse, h19, _, _, _, pre, rfl, X19, nm14, F19, ?_, ?_, ?_, by (first | lia | omega), rfl⟩
            · rw [List.map_append, List.pairwise_append] at hch4; exact hch4.1
            · intro b o hb e' n1 n2
              have hb' := hb
              simp only [List.mem_cons, List.not_mem_nil, or_false, not_or] at hb'
              refine s19.extBut _ _ hb'.2.1 (s18.extBut _ _ hb'.2.2.2 (s17.extBut _ _ hb'.1 (kk _ _ (fun q => ?_) n1 (z14 b o hb e' n1 n2))))
              rw [q] at e'; exact (eitn _ e').elim n1 n2
            · rw [List.length_append] at hel4; (first | lia | omega)
  · rintro I m₁ cm₁ h11 t11 hI X11 k11 _
    ktr_unf
    exact h _ _ X11.keep
end

section
open PySem PySem.W PySem.Calls PyProof.Rows PyProof.V
variable [Lo]
theorem call_vals {w : World} {A : Around} {E : Value → Shared → Prop} {s : Shared} {d : Addr} {kvs : List (Str × Value)} {Q : Value → Shared → Prop} (hs : (d == sysModules) = false) (D : DK w s.heap d kvs) (h : ∀ v h', Kp s.heap h' → s.heap.get? v = none → h'.IsValuesView v d → Q (.ref v) { s with heap := h' }) :
    wpAny (model PW w) A (call (.builtin "dict.values") [.ref d]) Q E s :=
  call_meetsIn PySem.F.slot_dict_values D.typeIs PySem.F.entry_dict_values (PySem.F.args_dict_values_1 _) (meets_dict_values (strKind PW w) d hs) ⟨⟨_, D⟩, h _ _ (Kp.push _ _) (size_none _) ⟨_, Heap.get?_push_size _ rfl, rfl, rfl⟩⟩
omit [Lo] in
noncomputable def f177 (w : World) : Fn w 177 := ⟨_, _, _, _, rfl⟩
omit [Lo] in
def rdy0 (g : List AN) : List (List Nat) := (g.filter fun p => decide (p.2.1 = 0)).map (·.1)
set_option maxHeartbeats 4000000 in
/-- prepare -/
theorem c_prep {w : World} {A : Around} {E : Value → Shared → Prop} {s : Shared} {Q : Value → Shared → Prop} {d : Nat} {h₀ : Heap} (C : Cx w h₀) (R : Rm A (d + 4) h₀) (k : Kp h₀ s.heap) {x dx N : Addr} {m : Str → Option Value} {p q : Int} {g : List Nd}
    (G : GS w h₀ s.heap x dx N 4 m g) (M : MT m N .none p q) (hlen : g.length ≤ 900) (hsc : ∀ n ∈ g, n.sc.length ≤ 900 ∧ ∀ y ∈ n.sc, y ∈ g.map Nd.wd ∧ n.wd.length < y.length)
    (h : ∀ Rl m' h' t', Kp h₀ h' → TS w h₀ h' x dx N Rl m' p q (rdy0 (g.map Nd.ab)) g → Q .none { s with heap := h', toks := t' }) :
    wpAny (model PW w) A (call (.ref 177) [.ref x]) Q E s := by
  refine' callK (f177 w) (d := d + 3) [("self", .ref x)] (upd (fun _ => none) "self" (.ref x)) (fun _ => none) (C.up k) (R.kp k) ?h2 ?h3 ?h4 ?h5 ?h6 ?h7 ?h8 ?h9 ?h10 ?h11 ?_
  case h2 => rfl
  case h3 => rfl
  case h4 => rfl
  case h5 => rfl
  case h6 => rfl
  case h7 => rfl
  case h8 => rfl
  case h9 => intro _; rfl
  case h10 => intro _; rfl
  case h11 => rfl
  intro L h₁ t₁ E' X R' C'
  refine cutQ fun P₀ hP₀ => ?_
  have X0 := X.base k
  have G1 := G.kp X.keep
  ktr_unf
  refine Attribute_Name_ ?_
  refine nm_loc X0.ev (by rfl) ?_
  refine own_get (o_rdy w) C' G1.T M.r rfl ?_
  ktr_unf
  refine wpAny_isNot_self (by rfl) ?_
  ktr_unf
  first | refine pif_f (by decide) ?_ | refine wif_f (by decide) ?_ | rw [if_neg (by decide)]
  ktr_unf
  refine plainObj_wpAny_Assign_Attribute ?_
  refine lc (cl := []) (cmo := fun _ => none) (fun pv h vs ys => SV ys (rdy0 ((g.take vs.length).map Nd.ab))) (by rfl) (by rfl) (by decide) (.inl ⟨by rfl, fun _ => by rfl⟩) (fun _ _ _ _ _ _ x => x) (fun _ _ => SV.nil) ?_
  ktr_unf
  refine Attribute_Name_ ?_
  refine nm_loc X0.ev (by rfl) ?_
  refine own_get (o_n2i w) C' G1.T M.n rfl ?_
  refine meth_dk PySem.F.slot_dict_values PySem.F.type_dict_values G1.D ?_
  ktr_unf
  refine call_vals G1.sy G1.D fun v h2 k2 n2 v2 => ?_
  have G2 := G1.kp k2
  have X2 := X0.kp k2
  refine ⟨_, _, _, src_vals (X2.rm R).hd v2 G2.D, ?_, (fun _ _ q => nomatch q), ?_, ?_⟩
  · rw [List.length_map, sizeLine_is]; (first | lia | omega)
  · intro Cc pv vs ys v s₃ m₃ cm₃ E'' hlt hP _ hJ hk _ _ X6 hm _ hcm
    refine cutQ fun P₀ hP₀ => ?_
    have hm := hm (by rfl)
    obtain ⟨kk, hkv⟩ := hP
    rw [List.getElem?_map] at hkv
    cases hg : g[vs.length]? with
    | none => rw [hg] at hkv; cases hkv
    | some n =>
      rw [hg] at hkv
      simp only [Option.map_some, Option.some.injEq, Prod.mk.injEq] at hkv
      obtain ⟨rfl, rfl⟩ := hkv
      have hn : n ∈ g := List.mem_of_getElem? hg
      have G3 := G2.kp hk
      have C3 := (X2.kp hk).cx C
      obtain ⟨tw, tn, J⟩ := (G3.nd n hn).at_
      have D := (G3.nd n hn).own
      have hdn : n.d ≠ n.a := fun q => by rw [q, J] at D; cases D
      have eT : rdy0 ((g.take (vs ++ [Value.ref n.a]).length).map Nd.ab) = rdy0 ((g.take vs.length).map Nd.ab) ++ rdy0 [n.ab] := by
        rw [List.length_append, List.length_singleton, take_snoc hg, List.map_append]
        unfold rdy0
        rw [List.filter_append, List.map_append]; rfl
      refine wpAny_tests_one ?_
      ktr_unf
      refine Attribute_Name_ ?_
      refine nm_loc X6 hm ?_
      refine get_at (s_np w) C3 ⟨n.d, J, D, hdn⟩ (by rfl) (by rfl) ?_
      ktr_unf
      refine ⟨_, _, rfl, Kp.refl _, ?_⟩
      by_cases hz : n.np = 0
      · first | refine pif_t (by simpa using hz) ?_ | refine wif_t (by simpa using hz) ?_ | rw [if_pos (by simpa using hz)]
        refine Attribute_Name_ ?_
        refine nm_loc X6 hm ?_
        refine get_at (s_node w) C3 ⟨n.d, J, D, hdn⟩ (by rfl) (by rfl) ?_
        refine ⟨_, _, rfl, Kp.refl _, ?_⟩
        rw [eT]
        have : rdy0 [n.ab] = [n.wd] := by unfold rdy0 Nd.ab; simp [hz]
        rw [this]
        exact hJ.snoc
      · first | refine pif_f (by simpa using hz) ?_ | refine wif_f (by simpa using hz) ?_ | rw [if_neg (by simpa using hz)]
        rw [eT]
        have : rdy0 [n.ab] = [] := by unfold rdy0 Nd.ab; simp [hz]
        rw [this, List.append_nil]
        exact hJ
  · intro D h3 t3 ys vs pv hD hk hl hlen3 hP hJ _ _
    rw [hlen3, List.length_map, List.take_length] at hJ
    have X3 := X2.kp hk
    have G3 := G2.kp hk
    have C3 := X3.cx C
    have nD : h₀.get? D = none := X2.keep.none hD
    refine nm_loc X3.ev (by rfl) ?_
    refine own_store (o_rdy w) C3 G3.T (by decide) fun h4 I4 s4 => ?_
    rw [M.r] at I4
    have G4 := G3.setT s4 I4
    have X4 := X3.but s4 G3.b2 (let ⟨es, n, e, _⟩ := G3.T.own; ⟨_, e, cn _ _ (by decide), cn _ _ (by decide)⟩)
    have hDdx : D ≠ dx := fun q => by obtain ⟨es, n, e, _⟩ := G2.T.own; rw [← q, hD] at e; cases e
    have l4 : h4.PlainList D ys.toArray := let ⟨n, e⟩ := hl; ⟨n, s4.extBut _ _ hDdx e⟩
    have T4 : TS w h₀ h4 x dx N D _ p q (rdy0 (g.map Nd.ab)) g := ⟨M.setR, G4, ⟨ys, l4, hJ⟩, (fun q => by
      obtain ⟨n, hn, e⟩ := List.mem_map.mp q
      obtain ⟨_, ⟨_, e'⟩, _⟩ := (G2.nd n hn).succ; rw [e, hD] at e'; cases e'), nD⟩
    have C4 := X4.cx C
    ktr_unf
    refine nm_loc X4.ev (by rfl) ?_
    refine meth_T (m_cyc w) C4 T4.G.T (T4.M.me _ (by decide)) ?_
    refine callWith_K0 C4.k (by rfl) ?_
    refine c_cyc (d := d + 1) C4 ((X4.rm R).mono (by (first | lia | omega))) T4.G T4.M.n hlen hsc fun h5 t5 k5 => ?_
    have X5 := X4.kp k5
    have T5 := T4.kp k5
    refine st_loc X5 fun h6 X6 k6 => ?_
    have T6 := T5.ko k6
    ktr_unf
    refine isTrue_plain ?_
    refine nm_loc X6.ev (by rfl) ?_
    refine PyProof.Rows.truthy_none ?_
    first | refine pif_f (by decide) ?_ | refine wif_f (by decide) ?_ | rw [if_neg (by decide)]
    ktr_unf
    exact h D _ _ _ X6.keep T6
end

section
open PySem PySem.W PySem.Calls PyProof.Rows PyProof.V
variable [Lo]
omit [Lo] in
/-- words in order -/
def ordW (l : List (List Nat)) : Prop := l.Pairwise fun a b => ¬ b < a
omit [Lo] in
theorem ord_uniq : ∀ {l l' : List (List Nat)}, l.Perm l' → ordW l → ordW l' → l = l'
  | [], l', p, _, _ => by rw [List.nil_perm.mp p]
  | a :: t, [], p, _, _ => by have := p.length_eq; simp at this
  | a :: t, b :: t', p, h, h' => by
    have ha : a ∈ b :: t' := p.mem_iff.mp List.mem_cons_self
    have hb : b ∈ a :: t := p.mem_iff.mpr List.mem_cons_self
    have e : a = b := by
      rcases List.mem_cons.mp ha with q | ha
      · exact q
      rcases List.mem_cons.mp hb with q | hb
      · exact q.symm
      exact List.le_antisymm (List.not_lt.mp ((List.pairwise_cons.mp h).1 b hb)) (List.not_lt.mp ((List.pairwise_cons.mp h').1 a ha))
    subst e
    rw [ord_uniq p.cons_inv (List.pairwise_cons.mp h).2 (List.pairwise_cons.mp h').2]
omit [Lo] in
def leW (a b : List Nat) : Bool := !decide (b < a)
omit [Lo] in
def srt (l : List (List Nat)) : List (List Nat) := l.mergeSort leW
omit [Lo] in
theorem srt_perm (l : List (List Nat)) : (srt l).Perm l := List.mergeSort_perm l leW
omit [Lo] in
theorem srt_ord (l : List (List Nat)) : ordW (srt l) := by
  have := List.pairwise_mergeSort (le := leW) (fun a b c h1 h2 => by
    simp only [leW, Bool.not_eq_true', decide_eq_false_iff_not, List.not_lt] at *
    exact List.le_trans h1 h2) (fun a b => by
    simp only [leW, Bool.or_eq_true, Bool.not_eq_true', decide_eq_false_iff_not, List.not_lt]
    exact List.le_total a b) l
  exact this.imp fun h => by simpa [leW] using h
omit [Lo] in
theorem srt_is {l ws : List (List Nat)} (p : l.Perm ws) (h : ordW l) : l = srt ws := ord_uniq (p.trans (srt_perm ws).symm) h (srt_ord ws)
omit [Lo] in
theorem ltS {a b : Str} : Spec.ltCps a.cps.toList b.cps.toList = decide (a.cps.toList < b.cps.toList) := ltCps_eq _ _
omit [Lo] in
theorem rising_ord : ∀ (p : Str) (l : List Str), risingS p l = true → (p :: l).Pairwise fun a b => ¬ b.cps.toList < a.cps.toList
  | p, [], _ => List.pairwise_singleton _ _
  | p, x :: r, h => by
    have h : (!Spec.ltCps x.cps.toList p.cps.toList && risingS x r) = true := h
    rw [Bool.and_eq_true, ltS] at h
    obtain ⟨h1, h2⟩ := h
    have ih := rising_ord x r h2
    refine List.pairwise_cons.mpr ⟨fun y hy => ?_, ih⟩
    have h1 : ¬ x.cps.toList < p.cps.toList := by simpa using h1
    rcases List.mem_cons.mp hy with rfl | hy
    · exact h1
    · have := (List.pairwise_cons.mp ih).1 y hy
      exact List.not_lt.mpr (List.le_trans (List.not_lt.mp h1) (List.not_lt.mp this))
omit [Lo] in
theorem sorted_ord : ∀ {l : List Str}, sortedS l = true → l.Pairwise fun a b => ¬ b.cps.toList < a.cps.toList
  | [], _ => .nil
  | x :: r, h => rising_ord x r h
omit [Lo] in
theorem SV.strs {vs : List Value} {ws : List (List Nat)} (h : SV vs ws) : StrsAre vs (ws.map S) := h.are
omit [Lo] in
theorem sv_of_strs : ∀ {vs : List Value} {ss : List Str}, StrsAre vs ss → SV vs (ss.map fun x => x.cps.toList)
  | _, _, .nil => SV.nil
  | _, _, .cons x t h => .cons ⟨t, congrArg (Value.str · t) (S_of x).symm⟩ (sv_of_strs h)
omit [Lo] in
theorem sv_ext : ∀ {vs : List Value} {ws : List (List Nat)}, vs.length = ws.length → (∀ (j : Nat) (v : Value) (l : List Nat), vs[j]? = some v → ws[j]? = some l → ∃ t, v = .str (S l) t) → SV vs ws
  | [], [], _, _ => SV.nil
  | [], _ :: _, h, _ => by simp at h
  | _ :: _, [], h, _ => by simp at h
  | v :: vs, l :: ws, h, k => .cons (k 0 v l rfl rfl) (sv_ext (by simpa using h) fun j v l hv hl => k (j + 1) v l (by simpa using hv) (by simpa using hl))
section
variable {w : World} {A : Around} {E : Value → Shared → Prop} {s : Shared}
/-- list.sort of words, and with it sorted of what can be collected -/
theorem sorted_by {r : Addr} {ws : List (List Nat)} {Q : Value → Shared → Prop} (hz : ws.length < 64)
    (hc : ∀ (R : List Value → Shared → Prop), (∀ h' tk vs, Kp s.heap h' → SV vs ws → R vs { s with heap := h', toks := tk }) → wpAny (model PW w) A.in1 (collect (.ref r)) R (fun e s' => E e s') s)
    (h : ∀ a (vs : List Value) h' tk, Kp s.heap h' → s.heap.get? a = none → h'.PlainList a vs.toArray → SV vs (srt ws) → Q (.ref a) { s with heap := h', toks := tk }) :
    wpAny (model PW w) A (call (.builtin "sorted") [.ref r]) Q E s := by
  refine call_function_entry kind_sorted plain_sorted entry_sorted (args_sorted1 _) ?_
  unfold Builtin.«sorted»
  refine wpAny_bind (m := checkCount "sorted" 1 1 _) (wpAny_pure ?_)
  refine wpAny_bind (hc _ fun h1 tk vs k1 sv => ?_)
  have hvl : vs.length = ws.length := sv.length
  refine wpAny_bind (wpAny_newList ?_ (by rw [sizeLine_is]; (first | lia | omega)))
  generalize hD : h1.objs.size = D
  have e2 : (h1.push { cls := .type "list", data := .seq vs.toArray }).get? D = some (seqObj "list" vs.toArray 0) := by rw [← hD]; exact Heap.get?_push_size _ rfl
  have k2 : ∀ b o, h1.get? b = some o → (h1.push { cls := .type "list", data := .seq vs.toArray }).get? b = some o := fun b o q => Heap.get?_push_of_some _ q
  have nD : h1.get? D = none := by rw [← hD]; exact size_none _
  generalize (h1.push { cls := .type "list", data := .seq vs.toArray }) = h2 at e2 k2
  have hS := sv.are
  refine wpAny_bind (wpAny_holding (wpAny_call_entry slot_list_sort ⟨_, e2, rfl⟩ entry_list_sort (list_sort_treeK (κ := PyProof.Rows.strKind) strKind_oneLt e2 hS.keysOf (fun v₁ v₂ rest e => keyKind_strs (by rw [← e]; exact hS)) (by (first | lia | omega)) fun st' hp hs => ⟨_, rfl, ?_⟩) (args_list_sort _)))
  obtain ⟨ss', q1, q2, q3⟩ := sorted_out_str hS hp hs
  obtain ⟨e, he⟩ := sortedHeap_at (vs := vs) (out := (arrOf st').map (·.2)) e2
  have kk : Kp h1 (sortedHeap h2 D vs ((arrOf st').map (·.2))) := Kp.of fun b o q => by
    have q' := k2 b o q
    exact (sortedHeap_old (fun z => by rw [z, nD] at q; cases q) (Heap.lt_size q')).trans q'
  refine wpAny_pure ⟨_, rfl, h D _ _ _ (k1.trans kk) (k1.none nD) ⟨e, by rw [he]⟩ ?_⟩
  have hsv := sv_of_strs q1
  have hp2 : (ss'.map fun x => x.cps.toList).Perm ws := by
    have := q2.map fun x : Str => x.cps.toList
    rw [List.map_map] at this
    have e : (ws.map ((fun x : Str => x.cps.toList) ∘ S)) = ws := by
      conv => rhs; rw [← List.map_id ws]
      exact List.map_congr_left fun x _ => by simp [S]
    rwa [e] at this
  have ho : ordW (ss'.map fun x => x.cps.toList) := by
    unfold ordW
    rw [List.pairwise_map]
    exact sorted_ord q3
  rw [← srt_is hp2 ho]
  exact hsv
theorem sorted_T {a : Addr} {vs : List Value} {ws : List (List Nat)} {Q : Value → Shared → Prop} (hl : s.heap.IsTuple a vs.toArray) (sv : SV vs ws) (hz : ws.length < 64)
    (h : ∀ a (vs : List Value) h' tk, Kp s.heap h' → s.heap.get? a = none → h'.PlainList a vs.toArray → SV vs (srt ws) → Q (.ref a) { s with heap := h', toks := tk }) :
    wpAny (model PW w) A (call (.builtin "sorted") [.ref a]) Q E s := by
  refine sorted_by hz (fun R hR => ?_) h
  obtain ⟨o, e, hc, n, hd⟩ := hl
  exact wpAny_collect_seq a (.inr rfl) e hc hd (fun h' hk => hR h' s.toks _ (Kp.of hk) sv) (by rw [List.size_toArray, sizeLine_is, sv.length]; (first | lia | omega))
theorem sorted_D {d : Addr} {kvs : List (Str × Value)} {ws : List (List Nat)} {Q : Value → Shared → Prop} (hh : A.handled = none) (hs : (d == sysModules) = false) (D : DK w s.heap d kvs) (sv : kvs.map (·.1) = ws.map S) (hz : ws.length < 64)
    (h : ∀ a (vs : List Value) h' tk, Kp s.heap h' → s.heap.get? a = none → h'.PlainList a vs.toArray → SV vs (srt ws) → Q (.ref a) { s with heap := h', toks := tk }) :
    wpAny (model PW w) A (call (.builtin "sorted") [.ref d]) Q E s := by
  refine sorted_by hz (fun R hR => ?_) h
  obtain ⟨ep, hat⟩ := D.dictAt
  have hkl : kvs.length = ws.length := by have := congrArg List.length sv; simpa using this
  refine kdu_collect (kdl_dict (knd := strKind PW w) (kvs := kvs) (ep := ep) hs) hh hat (by rw [sizeLine_is, hkl]; (first | lia | omega)) fun h' tk acc hk hacc => hR h' tk _ (Kp.of hk) ?_
  refine sv_ext (by rw [Array.length_toList, hacc.1, hkl]) fun j v l hv hl => ?_
  obtain ⟨k, x, hkx, his⟩ := hacc.2 j v (by rw [← Array.getElem?_toList]; exact hv)
  obtain ⟨t, rfl⟩ := is_str his
  have := congrArg (·[j]?) sv
  simp only [List.getElem?_map, hkx, hl, Option.map_some, Option.some.injEq] at this
  exact ⟨t, by rw [this]⟩
end
end

section
open PySem PySem.W PySem.Calls PyProof.Rows PyProof.V
variable [Lo]
omit [Lo] in
def addAll (ks : List (List Nat)) (f : List Nat → List (List Nat)) : List AN := ks.foldl (fun g l => addA g l (f l)) []
omit [Lo] in
def nextR (st : ST) : ST := st.2.foldl doneA (outA st.1 st.2, [])
omit [Lo] in
def roundsA : Nat → ST → List (List (List Nat))
  | 0, _ => []
  | n + 1, st => if st.2 = [] then [] else st.2 :: roundsA n (nextR st)
omit [Lo] in
def OkR : Nat → ST → Prop
  | 0, st => st.2 = []
  | n + 1, st => st.2 = [] ∨ ((∀ wd ∈ st.2, wd ∈ st.1.map (·.1)) ∧ st.2.length < 60 ∧ OkD (outA st.1 st.2, []) st.2 ∧ OkR n (nextR st))
omit [Lo] in
structure RndOk (ks : List (List Nat)) (f : List Nat → List (List Nat)) (n : Nat) : Prop where
  kL : ks.length ≤ 20
  fL : ∀ l ∈ ks, (f l).length ≤ 20
  sc : ∀ p ∈ addAll ks f, ∀ y ∈ p.2.2, y ∈ (addAll ks f).map (·.1) ∧ p.1.length < y.length
  nL : n ≤ 900
  ok : OkR n (addAll ks f, rdy0 (addAll ks f))
omit [Lo] in
theorem wn_addAll (f : List Nat → List (List Nat)) : ∀ (ks : List (List Nat)) (g : List AN), WN g → WN (ks.foldl (fun g l => addA g l (f l)) g)
  | [], g, h => h
  | k :: ks, g, h => wn_addAll f ks _ (wn_add h)
omit [Lo] in
theorem len_add {g : List AN} {l : List Nat} {ps : List (List Nat)} : (addA g l ps).length ≤ g.length + 1 + ps.length := by
  have := len_fold l ps (npA l (· + ps.length) (gniA l g))
  have h2 : (npA l (· + (ps.length : Int)) (gniA l g)).length ≤ g.length + 1 := by unfold npA; rw [List.length_map]; exact gni_len
  unfold addA; (first | lia | omega)
omit [Lo] in
theorem len_addAll (f : List Nat → List (List Nat)) : ∀ (ks : List (List Nat)) (g : List AN), (∀ l ∈ ks, (f l).length ≤ 20) → (ks.foldl (fun g l => addA g l (f l)) g).length ≤ g.length + 21 * ks.length
  | [], g, h => Nat.le_refl _
  | k :: ks, g, h => by
    have := len_addAll f ks (addA g k (f k)) fun l hl => h l (List.mem_cons_of_mem _ hl)
    have h2 := len_add (g := g) (l := k) (ps := f k)
    have h3 := h k List.mem_cons_self
    rw [List.foldl_cons, List.length_cons]; (first | lia | omega)
omit [Lo] in
theorem sc_add {g : List AN} {l : List Nat} {ps : List (List Nat)} {B : Nat} (h : ∀ p ∈ g, p.2.2.length ≤ B) : ∀ p ∈ addA g l ps, p.2.2.length ≤ B + ps.length := by
  refine sc_fold l (B + ps.length) ps _ (fun p hp => ?_) (by (first | lia | omega))
  unfold npA at hp
  obtain ⟨y, hy, e⟩ := List.mem_map.mp hp
  have hy2 : y.2.2.length ≤ B := by
    unfold gniA at hy
    split at hy
    · exact h y hy
    · rcases List.mem_append.mp hy with hy | hy
      · exact h y hy
      · rw [List.mem_singleton.mp hy]; exact Nat.zero_le _
  subst e
  split
  · show y.2.2.length + _ ≤ _; (first | lia | omega)
  · (first | lia | omega)
omit [Lo] in
theorem sc_addAll (f : List Nat → List (List Nat)) : ∀ (ks : List (List Nat)) (g : List AN) (B : Nat), (∀ l ∈ ks, (f l).length ≤ 20) → (∀ p ∈ g, p.2.2.length ≤ B) → ∀ p ∈ ks.foldl (fun g l => addA g l (f l)) g, p.2.2.length ≤ B + 20 * ks.length
  | [], g, B, h, hg => hg
  | k :: ks, g, B, h, hg => fun p hp => by
    have := sc_addAll f ks (addA g k (f k)) (B + 20) (fun l hl => h l (List.mem_cons_of_mem _ hl)) (fun p hp => by
      have := sc_add (ps := f k) (l := k) hg p hp
      have := h k List.mem_cons_self
      (first | lia | omega)) p hp
    rw [List.length_cons]; (first | lia | omega)
omit [Lo] in
theorem NV.val {h : Heap} {f : List Nat → List (List Nat)} {kvs : List (Str × Value)} {ls : List (List Nat)} (x : NV (fun _ => False) h f kvs ls) : ∀ {l : List Nat}, l ∈ ls → ∃ a, valueAt kvs (S l) = some (.ref a) ∧ WL h a (f l) := by
  induction x with
  | nil => intro l hl; cases hl
  | @cons kv l0 r1 r2 q _ ih =>
    intro l hl
    obtain ⟨q1, a, q2, _, q3⟩ := q
    by_cases e : l0 = l
    · subst e
      refine ⟨a, ?_, q3⟩
      unfold valueAt
      rw [List.find?_cons, q1, decide_eq_true rfl]
      simp [q2]
    · rcases List.mem_cons.mp hl with z | hl
      · exact absurd z.symm e
      · obtain ⟨a', e1, e2⟩ := ih hl
        refine ⟨a', ?_, e2⟩
        unfold valueAt at e1 ⊢
        rw [List.find?_cons, q1, decide_eq_false (fun z => e (S_inj z))]
        exact e1
omit [Lo] in
theorem NV.keys {h : Heap} {f : List Nat → List (List Nat)} {kvs : List (Str × Value)} {ls : List (List Nat)} (x : NV (fun _ => False) h f kvs ls) : kvs.map (·.1) = ls.map S := by
  induction x with
  | nil => rfl
  | cons q _ ih => rw [List.map_cons, List.map_cons, ih, q.1]
omit [Lo] in
/-- lists of lists of words, apart from Z -/
def LW (Z : List Addr) (h : Heap) : List Value → List (List (List Nat)) → Prop := Paired fun v ws => ∃ a, ∃ vs : List Value, v = .ref a ∧ a ∉ Z ∧ h.PlainList a vs.toArray ∧ SV vs ws
omit [Lo] in
theorem LW.keep {Z Z' : List Addr} {h h' : Heap} {vs : List Value} {xs : List (List (List Nat))} (x : LW Z h vs xs) (k : ∀ b o, b ∉ Z → h.get? b = some o → o.cls = .type "list" → b ∉ Z' ∧ h'.get? b = some o) : LW Z' h' vs xs := by
  induction x with
  | nil => exact .nil
  | cons q _ ih =>
    obtain ⟨a, us, rfl, np, ⟨n, e⟩, sv⟩ := q
    obtain ⟨k1, k2⟩ := k a _ np e rfl
    exact .cons ⟨a, us, rfl, k1, ⟨n, k2⟩, sv⟩ ih
theorem TS.stay {w : World} {Z : List Addr} {h h' : Heap} {x dx N Rl : Addr} {m : Str → Option Value} {p q : Int} {rdy : List (List Nat)} {g' : List Nd} (T' : TS w (wo Z h) h' x dx N Rl m p q rdy g') (k : Kp (wo Z h) h') {b : Addr} {o : Obj} (hb : b ∉ Z) (e : h.get? b = some o) (nf : o.cls ≠ .type "frame") : b ∉ Zt x dx N Rl g' ∧ h'.get? b = some o :=
  ⟨(fun q => by have := T'.z _ q; rw [wo_get hb, e] at this; cases this), k.off _ _ ((wo_get hb).trans e) nf⟩
omit [Lo] in
/-- between the turns of the adding -/
inductive RdJ (w : World) (h₀ h4 : Heap) (x dx N D : Addr) (mN : Str → Option Value) (ga : List AN) (I : Addr) (m : Str → Option Value) (h : Heap) : Prop
  | mk (a1 : m "sorter" = some (.ref x)) (a2 : m "needs" = some (.ref D)) (g₁ : List Nd) (G : GS w h₀ h x dx N 4 mN g₁) (hI : I ∉ Zg x dx N g₁) (fz : Fz (Zg x dx N []) h4 (Zg x dx N g₁)) (eg : g₁.map Nd.ab = ga) : RdJ w h₀ h4 x dx N D mN ga I m h
/-- between the rounds -/
inductive RdW (w : World) (s : Shared) (env : Env) (x dx N Rl Ra : Addr) (ra : List (List (List Nat))) (n k : Nat) (s' : Shared) : Prop
  | mk (h : Heap) (t : Nat) (m cm : Str → Option Value) (g : List Nd) (m' : Str → Option Value) (p : Int) (rdy : List (List Nat)) (rs : List Value) (done : List (List (List Nat))) (e : s' = { s with heap := h, toks := t }) (X : Bd s.heap env m cm h) (hso : m "sorter" = some (.ref x)) (hra : m "rounds" = some (.ref Ra))
    (T : TS w s.heap h x dx N Rl m' p p rdy g) (z : Ra ∉ Zt x dx N Rl g) (pl : h.PlainList Ra rs.toArray) (lw : LW (Ra :: Zt x dx N Rl g) h rs (done.map srt)) (er : ra = done ++ roundsA k (g.map Nd.ab, rdy)) (ok : OkR k (g.map Nd.ab, rdy)) (le : rs.length + k ≤ n) (wn : WN (g.map Nd.ab)) : RdW w s env x dx N Rl Ra ra n k s'
omit [Lo] in
noncomputable def f258 (w : World) : Fn w 258 := ⟨_, _, _, _, rfl⟩
set_option maxHeartbeats 4000000 in
/-- _law_rounds -/
theorem c_rounds {w : World} {A : Around} {E : Value → Shared → Prop} {s : Shared} {Q : Value → Shared → Prop} {d : Nat} (C : Cx w s.heap) (R : Rm A (d + 8) s.heap) {D : Addr} {kvs : List (Str × Value)} {ks : List (List Nat)} {f : List Nat → List (List Nat)} {n : Nat}
    (hs : (D == sysModules) = false) (hD : DK w s.heap D kvs) (hV : NV (fun _ => False) s.heap f kvs ks) (ok : RndOk ks f n)
    (h : ∀ a (rs : List Value) h' t', Kp s.heap h' → s.heap.get? a = none → h'.PlainList a rs.toArray → LW [] h' rs ((roundsA n (addAll ks f, rdy0 (addAll ks f))).map srt) → Q (.ref a) { s with heap := h', toks := t' }) :
    wpAny (model PW w) A (call (.ref 258) [.ref D]) Q E s := by
  refine' callK (f258 w) (d := d + 7) [("needs", .ref D)] (upd (fun _ => none) "needs" (.ref D)) (fun _ => none) C R ?h2 ?h3 ?h4 ?h5 ?h6 ?h7 ?h8 ?h9 ?h10 ?h11 ?_
  case h2 => rfl
  case h3 => rfl
  case h4 => rfl
  case h5 => rfl
  case h6 => rfl
  case h7 => rfl
  case h8 => rfl
  case h9 => intro _; rfl
  case h10 => intro _; rfl
  case h11 => rfl
  intro L h₁ t₁ E' X R' C'
  refine no_exc ?_
  refine cutQ fun P₀ hP₀ => ?_
  ktr_unf
  refine nm_glob (v := .ref 222) C' (by rfl) ?_
  refine callWith_K0 C'.k (by rfl) ?_
  refine mk_obj C' (by rfl) (by rfl : findIn (KF w.params) (.ref 222) "__init__" = some (some (.ref 158))) (by rfl) fun x dx h2 k2 nx ndx ex1 ex2 hne => ?_
  refine c_ts_init (d := d + 5) (h₀ := h₁) C' (((X.rm R).mono (by (first | lia | omega))).tc 222 _ _) k2 nx ndx ex1 ex2 hne fun h3 t3 N t1 t2 k3 G3 => ?_
  refine ⟨rfl, ?_⟩
  have X3 := X.kp k3
  have G3 := G3.sup X.keep
  refine st_loc X3 fun h4 X4 k4 => ?_
  have G4 := G3.ko k4
  have M4 := MT0 N t1 t2
  ktr_unf
  have k04 : Kp s.heap h4 := X4.keep
  have hkl : kvs.length = ks.length := by have := congrArg List.length hV.keys; simpa using this
  have hD4 := dk_kp hD k04
  obtain ⟨oD, eD, cD⟩ := DK.obj hD
  refine for_rule2 (h₀ := s.heap) (binds_loc (by rfl) (by rfl)) ?_
  refine nm_loc X4.ev (by rfl) ?_
  refine ⟨_, _, _, _, _, Zg x dx N [], fun I i m₁ cm₁ h => RdJ w s.heap h4 x dx N D (mT0 N t1 t2) ((ks.take i).foldl (fun g l => addA g l (f l)) []) I m₁ h,
    X4, src_keys (X4.rm R).hd hs hD4, ?_, ?_, ⟨rfl, rfl, [], G4, ?_, fz_self, rfl⟩, ?_, ?_⟩
  · intro z hz
    refine ⟨fun q => ?_, let ⟨o, e, _⟩ := G4.live z hz; ⟨o, e⟩⟩
    rw [List.mem_singleton] at q
    have := G4.z z hz
    rw [q, eD] at this; cases this
  · rintro I i m₁ cm₁ h h' k ⟨a1, a2, g₁, b1, b2, b3, b4⟩
    exact ⟨a1, a2, g₁, b1.toZ fun b o hb n1 n2 e => k b o (fun q => b2 (q ▸ hb)) e n1 n2, b2, b3, b4⟩
  · intro q; obtain ⟨o, e, _⟩ := G4.live _ q; rw [size_none] at e; cases e
  · rintro I i v m₁ cm₁ s₂ E'' hi ⟨kN, xN, hkv, his⟩ hI ⟨oI, hIl, nI1, nI2⟩ X5 k5 ⟨hso, hne, g₁, G5, hI5, fz5, eg5⟩
    refine cutQ fun P₀ hP₀ => ?_
    obtain ⟨l, hl, rfl, _⟩ : ∃ l, ks[i]? = some l ∧ kN = S l ∧ True := by
      obtain ⟨l, hl, q, _⟩ := Paired.get' hV hkv
      exact ⟨l, hl, q, trivial⟩
    obtain ⟨t0, rfl⟩ := is_str his
    have hlm : l ∈ ks := List.mem_of_getElem? hl
    obtain ⟨a, ea, wa⟩ := hV.val hlm
    have C5 := X5.cx C
    have k05 := X5.keep
    obtain ⟨us, pu, su⟩ := wa.kp k05
    have hfl := ok.fL l hlm
    have husl : us.length ≤ 20 := by rw [su.length]; exact hfl
    have len5 : g₁.length ≤ 21 * 20 := by
      have := congrArg List.length eg5
      rw [List.length_map] at this
      have h2 := len_addAll f (ks.take i) [] fun l hl => ok.fL l (List.mem_of_mem_take hl)
      have h3 : (ks.take i).length ≤ ks.length := by rw [List.length_take]; (first | lia | omega)
      have h4 := ok.kL
      have h5 : ([] : List AN).length = 0 := rfl
      (first | lia | omega)
    have sc5 : ∀ p ∈ g₁.map Nd.ab, p.2.2.length ≤ 400 := by
      rw [eg5]
      intro p hp
      have h2 := sc_addAll f (ks.take i) [] 0 (fun l hl => ok.fL l (List.mem_of_mem_take hl)) (fun _ q => nomatch q) p hp
      have h3 : (ks.take i).length ≤ ks.length := by rw [List.length_take]; (first | lia | omega)
      have h4 := ok.kL
      (first | lia | omega)
    have wn5 : WN (g₁.map Nd.ab) := by rw [eg5]; exact wn_addAll f _ _ List.nodup_nil
    ktr_unf
    refine wpAny_Expr_any ?_
    refine MethodCallS_ ?_
    refine nm_loc X5.ev (by exact hso) ?_
    refine bound_T (b_add w) C5 G5.T (M4.me _ (by decide)) fun qb h5b k5b nqb eqb => ?_
    have X5 := X5.kp k5b
    have G5 := G5.kp k5b
    have C5 := X5.cx C
    have k05 := X5.keep
    have pu := pl_kp pu k5b
    have hIl0 := hIl
    have hIl := k5b.off _ _ hIl nI1
    have k5 : Kz (Zg x dx N []) h4 h5b := fun b o hb e n1 n2 => k5b.off _ _ (k5 b o hb e n1 n2) n1
    refine callWith_B2 (g := 172) (self := .ref x) (by rfl) ?_
    ktr_unf
    refine nm_loc X5.ev (by rfl) ?_
    refine items_star ?_
    ktr_unf
    refine nm_loc X5.ev (by exact hne) ?_
    ktr_unf
    refine nm_loc X5.ev (by rfl) ?_
    refine sub_dk (dk_kp hD k05) ea ?_
    refine star_list pu (by (first | lia | omega)) fun h6 k6 => ?_
    have k6 := Kp.of k6
    have X6 := X5.kp k6
    have G6 := G5.kp k6
    ktr_unf
    refine ⟨⟨k6.off _ _ eqb (cn _ _ (by decide)), (X6.cx C).k⟩, ?_⟩
    have X6w := G6.bd X6
    rw [List.append_nil]
    refine c_add (d := d + 2) (X6w.cx C) (X6w.rm (R.mono (by (first | lia | omega)))) wo_kp G6.sub M4.n M4.r (M4.me _ (by decide)) (M4.me _ (by decide)) wn5 (by rw [← su.length]; (first | lia | omega)) (fun p hp => by have := sc5 p hp; rw [← su.length]; (first | lia | omega)) su fun g' h7 t7 eg' k7 G7 => ?_
    have X7 := X6w.kp k7
    have I6 := k6.off _ _ hIl nI1
    have I7 : h7.get? I = some oI := k7.off _ _ ((wo_get hI5).trans I6) nI1
    have z7 : ∀ b ∈ Zg x dx N g', (wo (Zg x dx N g₁) h6).get? b = none := G7.z
    have nI7 : I ∉ Zg x dx N g' := fun q => by have := z7 _ q; rw [wo_get hI5, I6] at this; cases this
    have k56 : Kz (Zg x dx N []) h4 h6 := fun b o hb e n1 n2 => k6.off _ _ (k5 b o hb e n1 n2) n1
    ktr_unf
    refine ⟨h7, _, _, _, rfl, X7, ⟨kz_wo k56 fz5 k7, fun o e => by rw [hIl0] at e; cases e; exact I7⟩, hso, hne, g', G7.sup X6w.keep, nI7, fz_wo k56 fz5 z7, ?_⟩
    rw [eg', eg5, take_snoc hl, List.foldl_append]
    rfl
  · rintro I m₁ cm₁ h5 t5 hI X5 k5 ⟨hso, hne, g₁, G5, hI5, fz5, eg5⟩
    rw [hkl, List.take_length] at eg5
    have C5 := X5.cx C
    have len5 : g₁.length ≤ 420 := by
      have := congrArg List.length eg5
      rw [List.length_map] at this
      have h2 := len_addAll f ks [] ok.fL
      have h4 := ok.kL
      have h5 : ([] : List AN).length = 0 := rfl
      (first | lia | omega)
    have sc5 : ∀ p ∈ g₁.map Nd.ab, p.2.2.length ≤ 400 := by
      rw [eg5]
      intro p hp
      have h2 := sc_addAll f ks [] 0 ok.fL (fun _ q => nomatch q) p hp
      have h4 := ok.kL
      (first | lia | omega)
    have hsc : ∀ n ∈ g₁, n.sc.length ≤ 900 ∧ ∀ y ∈ n.sc, y ∈ g₁.map Nd.wd ∧ n.wd.length < y.length := by
      intro n hn
      have hm : n.ab ∈ g₁.map Nd.ab := List.mem_map.mpr ⟨n, hn, rfl⟩
      refine ⟨Nat.le_trans (sc5 _ hm) (by decide), fun y hy => ?_⟩
      have := ok.sc n.ab (by rw [show addAll ks f = g₁.map Nd.ab from eg5.symm]; exact hm) y hy
      rw [show addAll ks f = g₁.map Nd.ab from eg5.symm, ab_wd] at this
      exact this
    have wn5 : WN (g₁.map Nd.ab) := by rw [eg5]; exact wn_addAll f _ _ List.nodup_nil
    ktr_unf
    refine wpAny_Expr_any ?_
    ktr_unf
    refine nm_loc X5.ev (by exact hso) ?_
    refine meth_T (m_prep w) C5 G5.T (M4.me _ (by decide)) ?_
    refine callWith_K0 C5.k (by rfl) ?_
    have X5w := G5.bd X5
    refine c_prep (d := d + 3) (X5w.cx C) (X5w.rm (R.mono (by (first | lia | omega)))) wo_kp G5.sub M4 (by (first | lia | omega)) hsc fun Rl m' h6 t6 k6 T6 => ?_
    have X6 := X5w.kp k6
    have T6 := T6.sup X5w.keep
    ktr_unf
    refine new_list (fun Ra h7 e7 k7 nRa pRa => ?_) (by rw [sizeLine_is]; exact Nat.le_of_ble_eq_true rfl)
    have T7 := T6.kp k7
    have X7 := X6.kp k7
    have zRa : Ra ∉ Zt x dx N Rl g₁ := fun q => by obtain ⟨o, e, _⟩ := T6.live _ q; rw [nRa] at e; cases e
    have nRa0 : s.heap.get? Ra = none := X6.keep.none nRa
    refine st_loc X7 fun h8 X8 k8 => ?_
    have T8 := T7.ko k8
    have pRa := pl_ko pRa k8
    ktr_unf
    refine while_rule PassesOwn.never (RdW w s (envF (f258 w) L) x dx N Rl Ra (roundsA n (addAll ks f, rdy0 (addAll ks f))) n) n
      ⟨h8, _, _, _, g₁, m', 0, _, [], [], rfl, X8, hso, rfl, T8, zRa, pRa, (by exact Paired.nil), by rw [eg5]; rfl, by rw [eg5]; exact ok.ok, by simp, wn5⟩ ?_
    rintro k s' ⟨h9, t9, m9, cm9, g9, m9', p, rdy, rs, done, rfl, X9, hso9, hra9, T9, zRa9, pRa9, lw9, er9, ok9, hk9, wn9⟩
    refine cutQ fun P₀ hP₀ => ?_
    have C9 := X9.cx C
    have R9 := X9.rm R
    have hrl : rdy.length ≤ 60 := by
      cases k with
      | zero => have : rdy = [] := ok9; rw [this]; exact Nat.zero_le _
      | succ k =>
        rcases ok9 with q | ⟨_, q, _⟩
        · have : rdy = [] := q; rw [this]; exact Nat.zero_le _
        · exact Nat.le_of_lt q
    refine isTrue_plain ?_
    ktr_unf
    refine nm_loc X9.ev (by exact hso9) ?_
    refine meth_T (m_act w) C9 T9.G.T (T9.M.me _ (by decide)) ?_
    refine callWith_K0 C9.k (by rfl) ?_
    refine c_act (d := d + 5) C9 (R9.mono (by (first | lia | omega))) T9 (by (first | lia | omega)) fun h10 t10 k10 => ?_
    have X10 := X9.kp k10
    have T10 := T9.kp k10
    have pRa10 := pl_kp pRa9 k10
    have lw10 : LW (Ra :: Zt x dx N Rl g9) h10 rs (done.map srt) := lw9.keep fun b o hb e c => ⟨hb, k10.off _ _ e (kc c)⟩
    refine wpAny_truthy_bool ?_
    have hpp : decide (p < p) = false := by simp
    rw [hpp, Bool.false_or]
    by_cases hr : rdy = []
    · ktr_unf
      first | refine pif_f (by simpa using hr) ?_ | refine wif_f (by simpa using hr) ?_ | rw [if_neg (by simpa using hr)]
      subst hr
      have er : roundsA k (g9.map Nd.ab, []) = [] := by cases k <;> rfl
      rw [er, List.append_nil] at er9
      ktr_unf
      refine nm_loc X10.ev (by exact hra9) ?_
      ktr_unf
      refine h Ra rs _ _ X10.keep nRa0 pRa10 ?_
      rw [er9]
      exact lw10.keep fun b o hb e c => ⟨(fun q => nomatch q), e⟩
    · ktr_unf
      first | refine pif_t (by simpa using hr) ?_ | refine wif_t (by simpa using hr) ?_ | rw [if_pos (by simpa using hr)]
      cases k with
      | zero => exact absurd ok9 hr
      | succ k =>
        rcases ok9 with q | ⟨hin, hr60, okd, okr⟩
        · exact absurd q hr
        ktr_unf
        refine nm_loc X10.ev (by exact hso9) ?_
        refine meth_T (m_rdy w) (X10.cx C) T10.G.T (T10.M.me _ (by decide)) ?_
        refine callWith_K0 (X10.cx C).k (by rfl) ?_
        have X10w := T10.bd X10
        refine c_rdy (d := d + 5) (X10w.cx C) (X10w.rm (R.mono (by (first | lia | omega)))) wo_kp T10.sub (by (first | lia | omega)) wn9 (fun wd hwd => by rw [← ab_wd]; exact hin wd hwd) fun ta vs g11 m11 h11 t11 k11 nta zta pta svt eg11 T11 => ?_
        have X11 := X10w.kp k11
        have stay11 : ∀ b o, b ∉ Zt x dx N Rl g9 → h10.get? b = some o → o.cls ≠ .type "frame" → b ∉ Zt x dx N Rl g11 ∧ h11.get? b = some o := fun b o hb e nf => T11.stay k11 hb e nf
        obtain ⟨nnR, eRa⟩ := pRa10
        obtain ⟨zRa11, eRa11⟩ := stay11 _ _ zRa9 eRa (cn _ _ (by decide))
        have lw11 : LW (Ra :: Zt x dx N Rl g11) h11 rs (done.map srt) := lw10.keep fun b o hb e c => by
          obtain ⟨q1, q2⟩ := stay11 b o (fun q => hb (List.mem_cons_of_mem _ q)) e (kc c)
          exact ⟨fun q => (List.mem_cons.mp q).elim (fun q => hb (q ▸ List.mem_cons_self)) q1, q2⟩
        have T11 := T11.sup X10w.keep
        refine st_loc X11 fun h12 X12 k12 => ?_
        have T12 := T11.ko k12
        have pta12 := tp_ko pta k12
        have eRa12 := k12 _ _ eRa11 (cn _ _ (by decide)) (cn _ _ (by decide))
        have lw12 : LW (Ra :: Zt x dx N Rl g11) h12 rs (done.map srt) := lw11.keep fun b o hb e c => ⟨hb, k12 _ _ e (kc c) (kc c)⟩
        ktr_unf
        refine wpAny_Expr_any ?_
        refine MethodCallS_ ?_
        refine nm_loc X12.ev (by exact hso9) ?_
        refine bound_T (b_done w) (X12.cx C) T12.G.T (T12.M.me _ (by decide)) fun qb h13 k13 nqb eqb => ?_
        have X13 := X12.kp k13
        have T13 := T12.kp k13
        refine callWith_B1 (g := 205) (self := .ref x) (by rfl) ?_
        refine nm_loc X13.ev (by rfl) ?_
        have hvl : vs.length = rdy.length := svt.length
        refine star_tuple (tp_kp pta12 k13) (by (first | lia | omega)) fun h14 k14 => ?_
        have k14 := Kp.of k14
        have X14 := X13.kp k14
        have T14 := T13.kp k14
        refine ⟨⟨k14.off _ _ eqb (cn _ _ (by decide)), (X14.cx C).k⟩, ?_⟩
        have X14w := T14.bd X14
        have wn11 : WN (g11.map Nd.ab) := by rw [eg11]; exact wn_out wn9 _
        refine c_done (d := d + 5) (X14w.cx C) (X14w.rm (R.mono (by (first | lia | omega)))) wo_kp T14.sub (by (first | lia | omega)) wn11 svt (by rw [eg11]; exact okd) fun g15 m15 rdy15 h15 t15 k15 eg15 T15 => ?_
        have X15 := X14w.kp k15
        have stay15 : ∀ b o, b ∉ Zt x dx N Rl g11 → h12.get? b = some o → o.cls ≠ .type "frame" → b ∉ Zt x dx N Rl g15 ∧ h15.get? b = some o := fun b o hb e nf => T15.stay k15 hb (k14.off _ _ (k13.off _ _ e nf) nf) nf
        obtain ⟨zRa15, eRa15⟩ := stay15 _ _ zRa11 eRa12 (cn _ _ (by decide))
        have lw15 : LW (Ra :: Zt x dx N Rl g15) h15 rs (done.map srt) := lw12.keep fun b o hb e c => by
          obtain ⟨q1, q2⟩ := stay15 b o (fun q => hb (List.mem_cons_of_mem _ q)) e (kc c)
          exact ⟨fun q => (List.mem_cons.mp q).elim (fun q => hb (q ▸ List.mem_cons_self)) q1, q2⟩
        have pta15 : h15.IsTuple ta vs.toArray := by
          obtain ⟨o, e, c, r⟩ := pta12
          exact ⟨o, (stay15 _ _ zta e (kc c)).2, c, r⟩
        have T15 := T15.sup X14w.keep
        have C15 := X15.cx C
        have pRa15 : h15.PlainList Ra rs.toArray := ⟨_, eRa15⟩
        ktr_unf
        refine wpAny_Expr_any ?_
        ktr_unf
        refine nm_loc X15.ev (by exact hra9) ?_
        refine meth_L PySem.F.slot_list_append PySem.F.type_list_append pRa15 ?_
        ktr_unf
        refine nm_blt (v := .builtin "sorted") C15 (by rfl) rfl ?_
        ktr_unf
        refine nm_loc X15.ev (by rfl) ?_
        ktr_unf
        refine sorted_T pta15 svt (by (first | lia | omega)) fun Sa us h16 t16 k16 nSa pSa suS => ?_
        have X16 := X15.kp k16
        have T16 := T15.kp k16
        have pRa16 := pl_kp pRa15 k16
        ktr_unf
        have hrsn := ok.nL
        refine app_L pRa16 (by (first | lia | omega)) fun h17 p17 s17 => ?_
        have zSa : Sa ∉ Ra :: Zt x dx N Rl g15 := fun q => by
          rcases List.mem_cons.mp q with q | q
          · rw [q] at nSa; obtain ⟨_, e⟩ := pRa15; rw [nSa] at e; cases e
          · obtain ⟨o, e, _⟩ := T15.live _ q; rw [nSa] at e; cases e
        have X17 := X16.but s17 nRa0 (let ⟨_, e⟩ := pRa16; ⟨_, e, cn _ _ (by decide), cn _ _ (by decide)⟩)
        have T17 : TS w s.heap h17 x dx N Rl m15 (p + rdy.length) (p + rdy.length) rdy15 g15 := T16.toZ fun b o hb n1 n2 e => s17.extBut _ _ (fun q => zRa15 (q ▸ hb)) e
        have lw17 : LW (Ra :: Zt x dx N Rl g15) h17 (rs ++ [Value.ref Sa]) ((done ++ [rdy]).map srt) := by
          rw [List.map_append]
          refine Paired.snoc (lw15.keep fun b o hb e c => ⟨hb, s17.extBut _ _ (fun q => hb (q ▸ List.mem_cons_self)) (k16.off _ _ e (kc c))⟩) ⟨Sa, us, rfl, zSa, ?_, suS⟩
          obtain ⟨nn, e⟩ := pSa
          exact ⟨nn, s17.extBut _ _ (fun q => zSa (q ▸ List.mem_cons_self)) e⟩
        have hnext : (g15.map Nd.ab, rdy15) = nextR (g9.map Nd.ab, rdy) := by rw [eg15, eg11]; rfl
        ktr_unf
        rw [hvl] at *
        refine ⟨k, Nat.lt_succ_self _, h17, _, _, _, g15, m15, p + rdy.length, rdy15, rs ++ [Value.ref Sa], done ++ [rdy], rfl, X17, hso9, hra9, T17, zRa15, p17, lw17, ?_, by rw [hnext]; exact okr, by rw [List.length_append, List.length_singleton]; (first | lia | omega), ?_⟩
        · rw [er9, hnext, List.append_assoc]
          congr 1
          show (if rdy = [] then [] else rdy :: roundsA k (nextR (g9.map Nd.ab, rdy))) = _
          rw [if_neg hr]; rfl
        · have : (g15.map Nd.ab).map (·.1) = (g11.map Nd.ab).map (·.1) := by
            have := congrArg Prod.fst eg15
            rw [show g15.map Nd.ab = _ from this, fst_dones]
          unfold WN; rw [this]; exact wn11
end

section
open PySem PySem.W PySem.Calls PyProof.Rows PyProof.V
variable [Lo]
omit [Lo] in
def stayA (f : List Nat → List (List Nat)) (peeled left : List (List Nat)) : List (List Nat) := left.filter fun w => decide ((f w).filter (fun y => !decide (y ∈ peeled)) ≠ [])
omit [Lo] in
def layA (f : List Nat → List (List Nat)) : Nat → List (List Nat) → List (List Nat) → List (List (List Nat))
  | 0, _, _ => []
  | n + 1, p, l => l.filter (fun y => !decide (y ∈ stayA f p l)) :: layA f n (p ++ l.filter (fun y => !decide (y ∈ stayA f p l))) (stayA f p l)
theorem triple_to {w : World} {A : Around} {E : Value → Shared → Prop} {s : Shared} {env : Env} {x y z : Str} {px py pz tp : Pos} {k : Nat} {v1 v2 v3 : Value} {K : Unit → Shared → Prop} (hh : A.handled = none)
    (h : ∀ h', Kp s.heap h' → wpAny (model PW w) A (storeName env x v1) (fun _ s' => wpAny (model PW w) A (storeName env y v2) (fun _ s' => wpAny (model PW w) A (storeName env z v3) K E s') E s') E { s with heap := h' }) :
    wpAny (model PW w) A (newTuple [v1, v2, v3]) (fun v s₁ => wpAny (model PW w) A (assign (.Tuple [.Name x px, .Name y py, .Name z pz] k tp) env v) K E s₁) E s := by
  refine wpAny_newTuple ?_ (by rw [sizeLine_is]; exact Nat.le_of_ble_eq_true rfl)
  refine wpAny_assign_Tuple (items := #[v1, v2, v3]) hh ⟨_, Heap.get?_push_size _ rfl, rfl, 0, rfl⟩ (by rfl) (by rfl) fun h' he => ?_
  have hk : Kp s.heap h' := (Kp.push s.heap { cls := .type "tuple", data := .seq [v1, v2, v3].toArray }).trans (Kp.of fun b o e => he b o (nn (size_none _) e) e)
  refine assignInOrder_cons (wpAny_assign_Name (wpAny_mono (h h' hk) (fun _ s' z => ?_) fun _ _ z => z))
  refine assignInOrder_cons (wpAny_assign_Name (wpAny_mono z (fun _ s' z => ?_) fun _ _ z => z))
  exact assignInOrder_cons (wpAny_assign_Name (wpAny_mono z (fun _ s'' z' => assignInOrder_nil z') fun _ _ z => z))
omit [Lo] in
/-- between the turns of the peeling -/
inductive LyJ (f : List Nat → List (List Nat)) (ws : List (List Nat)) (La D I : Addr) (i : Nat) (m cm : Str → Option Value) (h : Heap) : Prop
  | mk (a1 : m "layers" = some (.ref La)) (a2 : cm "needs" = some (.ref D)) (l p : Addr) (rs : List Value) (lw pw : List (List Nat)) (done : List (List (List Nat))) (b1 : m "left" = some (.ref l)) (b2 : cm "peeled" = some (.ref p)) (b3 : l ≠ La) (b4 : p ≠ La) (b5 : l ≠ I) (b6 : p ≠ I) (b7 : La ≠ I)
    (b8 : WL h l lw) (b9 : WL h p pw) (b10 : h.PlainList La rs.toArray) (b11 : LW [La, I] h rs done) (b12 : rs.length = i) (b13 : lw.length ≤ 20) (b14 : ∀ x ∈ lw, x ∈ ws) (b15 : pw.length ≤ 20 * i) (b16 : layA f ws.length [] ws = done ++ layA f (ws.length - i) pw lw) : LyJ f ws La D I i m cm h
omit [Lo] in
noncomputable def f263 (w : World) : Fn w 263 := ⟨_, _, _, _, rfl⟩
set_option maxHeartbeats 4000000 in
/-- _law_layers -/
theorem c_layers {w : World} {A : Around} {E : Value → Shared → Prop} {s : Shared} {Q : Value → Shared → Prop} {d : Nat} (C : Cx w s.heap) (R : Rm A (d + 8) s.heap) {D wl : Addr} {vs : List Value} {ws : List (List Nat)} {kvs : List (Str × Value)} {ks : List (List Nat)} {f : List Nat → List (List Nat)}
    (hl : s.heap.PlainList wl vs.toArray) (hv : SV vs ws) (hD : DK w s.heap D kvs) (hV : NV (fun _ => False) s.heap f kvs ks) (hwl : ws.length ≤ 20) (hk : ∀ l ∈ ws, l ∈ ks ∧ (f l).length ≤ 20)
    (h : ∀ a (rs : List Value) h' t', Kp s.heap h' → s.heap.get? a = none → h'.PlainList a rs.toArray → LW [] h' rs ((layA f ws.length [] ws).filter fun l => decide (l ≠ [])) → Q (.ref a) { s with heap := h', toks := t' }) :
    wpAny (model PW w) A (call (.ref 263) [.ref wl, .ref D]) Q E s := by
  refine' callK (f263 w) (d := d + 7) [("words", .ref wl), ("needs", .ref D)] (upd (fun _ => none) "words" (.ref wl)) (upd (fun _ => none) "needs" (.ref D)) C R ?h2 ?h3 ?h4 ?h5 ?h6 ?h7 ?h8 ?h9 ?h10 ?h11 ?_
  case h2 => rfl
  case h3 => rfl
  case h4 => rfl
  case h5 => rfl
  case h6 => rfl
  case h7 => rfl
  case h8 => rfl
  case h9 => intro _; rfl
  case h10 => intro _; rfl
  case h11 => rfl
  intro L h₁ t₁ E' X R' C'
  refine cutQ fun P₀ hP₀ => ?_
  have hvl : vs.length = ws.length := hv.length
  ktr_unf
  refine PyProof.Rows.Assign_Tuple ?_
  ktr_unf
  refine new_list (fun La h2 _ k2 nLa pLa => ?_) (by rw [sizeLine_is]; exact Nat.le_of_ble_eq_true rfl)
  ktr_unf
  refine new_list (fun Pa h3 _ k3 nPa pPa => ?_) (by rw [sizeLine_is]; exact Nat.le_of_ble_eq_true rfl)
  ktr_unf
  have X3 := (X.kp k2).kp k3
  refine nm_loc X3.ev (by rfl) ?_
  ktr_unf
  refine triple_to R'.hd fun h4 k4 => ?_
  have X4 := X3.kp k4
  refine st_loc X4 fun h5 X5 k5 => ?_
  refine st_cell X5 fun h6 X6 k6 => ?_
  refine st_loc X6 fun h7 X7 k7 => ?_
  have pLa7 := pl_ko (pl_ko (pl_ko (pl_kp (pl_kp pLa k3) k4) k5) k6) k7
  have pPa7 := pl_ko (pl_ko (pl_ko (pl_kp pPa k4) k5) k6) k7
  have nLa0 : s.heap.get? La = none := X.keep.none nLa
  have hwlLa : wl ≠ La := pne hl nLa0
  have hPaLa : Pa ≠ La := (pne pLa nPa).symm
  have hwI : ∀ I, h7.get? I = none → wl ≠ I := fun I hI q => by obtain ⟨_, e⟩ := pl_kp hl X7.keep; rw [q, hI] at e; cases e
  ktr_unf
  refine for_rule (h₀ := s.heap) (binds_loc (by rfl) (by rfl)) ?_
  refine nm_loc X7.ev (by rfl) ?_
  refine ⟨_, _, _, _, _, [La], fun I i m cm h => LyJ f ws La D I i m cm h,
    X7, src_list (X7.rm R).hd (pl_kp hl X7.keep), ?_, ?_, ⟨rfl, rfl, wl, Pa, [], ws, [], [], rfl, rfl, hwlLa, hPaLa, ?_, ?_, ?_, ⟨vs, pl_kp hl X7.keep, hv⟩, ⟨[], pPa7, SV.nil⟩, pLa7, .nil, rfl, hwl, fun _ q => q, Nat.zero_le _, rfl⟩, ?_, ?_⟩
  · intro z hz
    rw [List.mem_singleton] at hz
    subst hz
    exact ⟨fun q => hwlLa (List.mem_singleton.mp q).symm, let ⟨_, e⟩ := pLa7; ⟨_, e⟩⟩
  · rintro I i m cm h h' k ⟨a1, a2, l, p, rs, lw, pw, done, b1, b2, b3, b4, b5, b6, b7, b8, b9, b10, b11, b12, b13, b14, b15, b16⟩
    refine ⟨a1, a2, l, p, rs, lw, pw, done, b1, b2, b3, b4, b5, b6, b7, b8.at fun o q e => k _ _ b5 e (kc q) (kc q), b9.at fun o q e => k _ _ b6 e (kc q) (kc q),
      let ⟨n, e⟩ := b10; ⟨n, k _ _ b7 e (cn _ _ (by decide)) (cn _ _ (by decide))⟩, b11.keep fun b o hb e c => ⟨hb, k _ _ (fun q => hb (by simp [q])) e (kc c) (kc c)⟩, b12, b13, b14, b15, b16⟩
  · exact hwI _ (size_none _)
  · intro q; obtain ⟨_, e⟩ := pPa7; rw [q, size_none] at e; cases e
  · intro q; obtain ⟨_, e⟩ := pLa7; rw [q, size_none] at e; cases e
  · rintro I i v m cm s₂ E'' hi hvi hI ⟨oI, hIl, nI1, nI2⟩ X8 k8 ⟨hly, hne, l, p, rs, lw, pw, done, hle, hpe, b3, b4, b5, b6, b7, ⟨lvs, pl8, sl8⟩, ⟨pvs, pp8, sp8⟩, b10, b11, b12, b13, b14, b15, b16⟩
    refine cutQ fun P₀ hP₀ => ?_
    have C8 := X8.cx C
    have R8 := X8.rm R
    have hlvl : lvs.length = lw.length := sl8.length
    ktr_unf
    refine lc_to (cl := [("peeled", L + 2), ("needs", L + 1)]) (cmo := cm) (h₀ := s.heap)
      (fun _ _ vs ys => SV ys (stayA f pw (lw.take vs.length))) (by rfl) (by rfl) (by rfl) (by decide) (.inl ⟨by rfl, fun _ => by rfl⟩) (fun _ _ _ _ _ _ x => x) (fun _ _ => SV.nil) (by rfl) (by rfl) ?_
    refine nm_loc X8.ev (by exact hle) ?_
    refine ⟨_, _, _, _, _, X8, src_list R8.hd pl8, ?_, X8.ev.cells ⟨rfl, rfl, trivial⟩, ?_, ?_⟩
    · rw [sizeLine_is]; (first | lia | omega)
    · intro Cc pv vs' ys v s₃ m4 cm4 E4 hlt' hP _ hJ hk4 _ _ X9 hm _ hcm
      refine cutQ fun P₀ hP₀ => ?_
      have hm := hm (by rfl)
      obtain ⟨wd, tw, hwd, rfl⟩ := sl8.get hP
      have hmem : wd ∈ lw := List.mem_of_getElem? hwd
      obtain ⟨hks, hf20⟩ := hk wd (b14 wd hmem)
      obtain ⟨na, ena, wna⟩ := hV.val hks
      have Xw := X8.kp hk4
      have C9 := Xw.cx C
      obtain ⟨nvs, pn, sn⟩ := wna.kp Xw.keep
      have hnl : nvs.length ≤ 20 := by rw [sn.length]; exact hf20
      have eT : stayA f pw (lw.take (vs' ++ [Value.str (S wd) tw]).length) = stayA f pw (lw.take vs'.length) ++ stayA f pw [wd] := by
        rw [List.length_append, List.length_singleton, take_snoc hwd]; unfold stayA; rw [List.filter_append]
      refine wpAny_tests_one ?_
      ktr_unf
      refine nm_glob (v := .ref 82) C9 (by rfl) ?_
      refine callWith_K C9.k (by rfl) ?_
      ktr_unf
      refine nm_cell X9 (by rw [hcm _ (by rfl)]; exact hne) ?_
      ktr_unf
      refine nm_loc X9 hm ?_
      refine sub_dk (dk_kp hD Xw.keep) ena ?_
      ktr_unf
      refine nm_cell X9 (by rw [hcm _ (by rfl)]; exact hpe) ?_
      ktr_unf
      refine ⟨C9.k, ?_⟩
      refine c_filter (s := { s₃ with toks := s₃.toks + 1 }) (d := d) C9 ((Xw.rm R).mono (by (first | lia | omega))) (by rw [← sn.length]; (first | lia | omega)) pn sn (pl_kp pp8 hk4) sp8 fun h10 t10 a acc k10 na10 p10 sv10 => ?_
      ktr_unf
      refine new_list (fun l11 h11 _ k11 n11 p11 => ?_) (by rw [sizeLine_is]; exact Nat.le_of_ble_eq_true rfl)
      refine ne_nil (pl_kp p10 k11) p11 (by have := (Xw.rm R).un; (first | lia | omega)) ?_
      ktr_unf
      have hacc : decide (acc ≠ []) = decide ((f wd).filter (fun y => !decide (y ∈ pw)) ≠ []) := by
        have := sv10.length
        cases acc <;> cases h : (f wd).filter (fun y => !decide (y ∈ pw)) <;> first | rfl | (rw [h] at this; simp at this)
      refine ⟨_, _, rfl, k10.trans k11, ?_⟩
      rw [hacc]
      by_cases hst : (f wd).filter (fun y => !decide (y ∈ pw)) ≠ []
      · first | refine pif_t (by simpa using hst) ?_ | refine wif_t (by simpa using hst) ?_ | rw [if_pos (by simpa using hst)]
        refine nm_loc ((X9.kp k10).kp k11) hm ?_
        refine ⟨_, _, rfl, Kp.refl _, ?_⟩
        rw [eT]
        have : stayA f pw [wd] = [wd] := by unfold stayA; simp only [List.filter_cons, decide_eq_true hst]; rfl
        rw [this]
        exact hJ.snoc
      · rw [if_neg (by simpa using hst), eT]
        have : stayA f pw [wd] = [] := by unfold stayA; simp only [List.filter_cons, decide_eq_false hst]; rfl
        rw [this, List.append_nil]
        exact hJ
    · intro Sa h9 t9 ys vs' pv hSa X9 k9 pSa hlen9 _ hJ _ _
      rw [hlen9, hlvl, List.take_length] at hJ
      have C9 := X9.cx C
      have pl9 := pl_ko pl8 k9
      have pp9 := pl_ko pp8 k9
      have pLa9 := pl_ko b10 k9
      ktr_unf
      refine wpAny_Expr_any ?_
      ktr_unf
      refine nm_loc X9.ev (by exact hly) ?_
      refine meth_L PySem.F.slot_list_append PySem.F.type_list_append pLa9 ?_
      ktr_unf
      refine nm_glob (v := .ref 82) C9 (by rfl) ?_
      refine callWith_K C9.k (by rfl) ?_
      ktr_unf
      refine nm_loc X9.ev (by exact hle) ?_
      ktr_unf
      refine nm_loc X9.ev (by rfl) ?_
      ktr_unf
      refine ⟨C9.k, ?_⟩
      refine c_filter (d := d) C9 ((X9.rm R).mono (by (first | lia | omega))) (by (first | lia | omega)) pl9 sl8 pSa hJ fun h10 t10 Ya acc k10 nYa pYa sYa => ?_
      have X10 := X9.kp k10
      have pLa10 := pl_kp pLa9 k10
      ktr_unf
      refine app_L pLa10 (by (first | lia | omega)) fun h11 p11 s11 => ?_
      have X11 := X10.but s11 nLa0 (let ⟨_, e⟩ := pLa10; ⟨_, e, cn _ _ (by decide), cn _ _ (by decide)⟩)
      have C11 := X11.cx C
      have nYLa : Ya ≠ La := (pne pLa9 nYa).symm
      have nSLa : Sa ≠ La := (pne b10 hSa).symm
      have hIl9 := k9 _ _ hIl nI1 nI2
      have nYI : Ya ≠ I := fun q => by rw [q, hIl9] at nYa; cases nYa
      have nSI : Sa ≠ I := fun q => by rw [q, hIl] at hSa; cases hSa
      have stay : ∀ b o, b ≠ La → h9.get? b = some o → o.cls ≠ .type "frame" → h11.get? b = some o := fun b o hb e nf => s11.extBut _ _ hb (k10.off _ _ e nf)
      have pp11 : h11.PlainList p pvs.toArray := let ⟨n, e⟩ := pp9; ⟨n, stay _ _ b4 e (cn _ _ (by decide))⟩
      have pSa11 : h11.PlainList Sa ys.toArray := let ⟨n, e⟩ := pSa; ⟨n, stay _ _ nSLa e (cn _ _ (by decide))⟩
      have pYa11 : h11.PlainList Ya acc.toArray := let ⟨n, e⟩ := pYa; ⟨n, s11.extBut _ _ nYLa e⟩
      ktr_unf
      refine nm_cell X11.ev (by exact hpe) ?_
      ktr_unf
      refine nm_loc X11.ev (by exact hly) ?_
      ktr_unf
      refine neg_int ?_
      refine sub_last p11 (by (first | lia | omega)) ?_
      have hyl : acc.length ≤ 20 := by rw [sYa.length]; exact Nat.le_trans (List.length_filter_le _ _) b13
      have hpl : pvs.length = pw.length := sp8.length
      refine add_lst pp11 pYa11 (fun Pn h12 k12 nPn pPn => ?_) (by (first | lia | omega))
      have X12 := X11.kp k12
      refine st_cell X12 fun h13 X13 k13 => ?_
      ktr_unf
      refine nm_loc X13.ev (by rfl) ?_
      refine st_loc X13 fun h14 X14 k14 => ?_
      ktr_unf
      have kfin : ∀ b o, b ≠ La → s₂.heap.get? b = some o → o.cls ≠ .type "frame" → o.cls ≠ .type "cell" → h14.get? b = some o := fun b o hb e n1 n2 => k14 _ _ (k13 _ _ (k12.off _ _ (stay b o hb (k9 _ _ e n1 n2) n1) n1) n1 n2) n1 n2
      have up : ∀ b o, h11.get? b = some o → o.cls ≠ .type "frame" → o.cls ≠ .type "cell" → h14.get? b = some o := fun b o e n1 n2 => k14 _ _ (k13 _ _ (k12.off _ _ e n1) n1 n2) n1 n2
      have nPLa : Pn ≠ La := (pne p11 nPn).symm
      have hLaI : La ≠ I := b7
      have nPI : Pn ≠ I := fun q => by rw [q, stay _ _ (Ne.symm hLaI) hIl9 nI1] at nPn; cases nPn
      refine ⟨h14, _, _, _, rfl, X14, fun b o hb e n1 n2 => kfin b o (by simpa using hb) e n1 n2, hly, hne, Sa, Pn, rs ++ [Value.ref Ya], _, _, done ++ [lw.filter fun y => !decide (y ∈ stayA f pw lw)], rfl, rfl, nSLa, nPLa, nSI, nPI, b7, ⟨ys, (let ⟨n, e⟩ := pSa11; ⟨n, up _ _ e (cn _ _ (by decide)) (cn _ _ (by decide))⟩), hJ⟩, ⟨pvs ++ acc, (let ⟨n, e⟩ := pPn; ⟨n, k14 _ _ (k13 _ _ e (cn _ _ (by decide)) (cn _ _ (by decide))) (cn _ _ (by decide)) (cn _ _ (by decide))⟩), Paired.app sp8 sYa⟩, (let ⟨n, e⟩ := p11; ⟨n, up _ _ e (cn _ _ (by decide)) (cn _ _ (by decide))⟩), ?_, by rw [List.length_append, List.length_singleton, b12], ?_, ?_, ?_, ?_⟩
      · refine Paired.snoc (b11.keep fun b o hb e c => ⟨hb, kfin _ _ (fun q => hb (by simp [q])) e (kc c) (kc c)⟩) ⟨Ya, acc, rfl, ?_, (let ⟨n, e⟩ := pYa11; ⟨n, up _ _ e (cn _ _ (by decide)) (cn _ _ (by decide))⟩), sYa⟩
        simp only [List.mem_cons, List.not_mem_nil, or_false, not_or]
        exact ⟨nYLa, nYI⟩
      · exact Nat.le_trans (List.length_filter_le _ _) b13
      · exact fun x hx => b14 x (List.mem_filter.mp hx).1
      · rw [List.length_append]
        have := List.length_filter_le (fun y => !decide (y ∈ stayA f pw lw)) lw
        (first | lia | omega)
      · rw [b16, List.append_assoc]
        congr 1
        rw [show ws.length - i = (ws.length - (i + 1)) + 1 by (first | lia | omega)]
        rfl
  · rintro I m₁ cm₁ h8 t8 hI X8 k8 ⟨hly, hne, l, p, rs, lw, pw, done, hle, hpe, b3, b4, b5, b6, b7, wl8, wp8, b10, b11, b12, b13, b14, b15, b16⟩
    rw [hvl, Nat.sub_self] at b16
    have b16 : layA f ws.length [] ws = done := by rw [b16]; simp [layA]
    have C8 := X8.cx C
    ktr_unf
    have hrd : rs.length = done.length := Paired.len' b11
    refine lc (cl := []) (cmo := fun _ => none) (fun pv h vs ys => LW [] h8 ys ((done.take vs.length).filter fun l => decide (l ≠ []))) (by rfl) (by rfl) (by decide) (.inl ⟨by rfl, fun _ => by rfl⟩) (fun _ _ _ _ _ _ x => x) (fun _ _ => .nil) ?_
    refine nm_loc X8.ev (by exact hly) ?_
    refine ⟨_, _, _, src_list (X8.rm R).hd b10, ?_, (fun _ _ q => nomatch q), ?_, ?_⟩
    · rw [sizeLine_is]; (first | lia | omega)
    · intro Cc pv vs' ys v s₃ m4 cm4 E4 hlt' hP _ hJ hk4 _ _ X9 hm _ hcm
      refine cutQ fun P₀ hP₀ => ?_
      have hm := hm (by rfl)
      obtain ⟨lay, hlay, a, us, rfl, _, pa, sa⟩ := Paired.get' b11 hP
      have Xw := X8.kp hk4
      have eT : (done.take (vs' ++ [Value.ref a]).length).filter (fun l => decide (l ≠ [])) = (done.take vs'.length).filter (fun l => decide (l ≠ [])) ++ [lay].filter (fun l => decide (l ≠ [])) := by
        rw [List.length_append, List.length_singleton, take_snoc hlay, List.filter_append]
      refine wpAny_tests_one ?_
      ktr_unf
      refine nm_loc X9 hm ?_
      ktr_unf
      refine new_list (fun l11 h11 _ k11 n11 p11 => ?_) (by rw [sizeLine_is]; exact Nat.le_of_ble_eq_true rfl)
      refine ne_nil (pl_kp (pl_kp pa hk4) k11) p11 (by have := (Xw.rm R).un; (first | lia | omega)) ?_
      ktr_unf
      have hacc : decide (us ≠ []) = decide (lay ≠ []) := by
        have := sa.length
        cases us <;> cases lay <;> first | rfl | (simp at this)
      refine ⟨_, _, rfl, k11, ?_⟩
      rw [hacc]
      by_cases hst : lay ≠ []
      · first | refine pif_t (by simpa using hst) ?_ | refine wif_t (by simpa using hst) ?_ | rw [if_pos (by simpa using hst)]
        refine nm_loc (X9.kp k11) hm ?_
        refine ⟨_, _, rfl, Kp.refl _, ?_⟩
        rw [eT]
        have : [lay].filter (fun l => decide (l ≠ [])) = [lay] := by simp only [List.filter_cons, decide_eq_true hst]; rfl
        rw [this]
        exact Paired.snoc hJ ⟨a, us, rfl, (fun q => nomatch q), pa, sa⟩
      · rw [if_neg (by simpa using hst), eT]
        have : [lay].filter (fun l => decide (l ≠ [])) = [] := by simp only [List.filter_cons, decide_eq_false hst]; rfl
        rw [this, List.append_nil]
        exact hJ
    · intro Fa h9 t9 ys vs' pv hFa hk9 pFa hlen9 _ hJ _ _
      rw [hlen9, hrd, List.take_length, ← b16] at hJ
      ktr_unf
      refine h Fa ys h9 _ (X8.keep.trans hk9) (X8.keep.none hFa) pFa ?_
      exact LW.keep hJ fun b o hb e c => ⟨hb, hk9.off _ _ e (kc c)⟩
end

section
open PySem PySem.W PySem.Calls PyProof.Rows PyProof.V
variable [Lo]
theorem il_kp {h h' : Heap} {a : Addr} {vs : Array Value} (x : h.IsList a vs) (k : Kp h h') : h'.IsList a vs := let ⟨o, e, c, r⟩ := x; ⟨o, k.off _ _ e (kc c), c, r⟩
section
variable {w : World} {A : Around} {E : Value → Shared → Prop} {s : Shared}
theorem sl_L {value slice : Expr} {l a : Addr} {vs : List Value} {k : Nat} {uk : Tok} {Q : Value → Shared → Prop} (hl : s.heap.IsList l vs.toArray) (hz : vs.length ≤ 100000) (hsl : s.heap.IsSliceOf a .none (.int (k : Int) uk) .none)
    (h : ∀ b h', Kp s.heap h' → s.heap.get? b = none → h'.PlainList b (vs.take k).toArray → Q (.ref b) { s with heap := h' })
    (hs : subscripted slice false (.ref l) (.ref a) = operate [.ref a, .ref l] (getItem (.ref l) (.ref a)) := by with_unfolding_all rfl)
    (ht : ∀ r, letTemporaryGo value (.ref l) r = pure () := by intro _; with_unfolding_all rfl) :
    wpAny (model PW w) A (subscriptTail value slice (.ref l) (.ref a)) Q E s := by
  refine subscriptTail_ops hl.typeIs list_getitem_lookup (wpAny_getItem_list_slice hl hsl .none (.int _ _) .none (by simp) ?_ (by rw [List.size_toArray, sizeLine_is]; (first | lia | omega))) hs ht
  refine h _ _ (Kp.push _ _) (size_none _) ⟨0, ?_⟩
  rw [slicePick_upto']
  exact Heap.get?_push_size _ rfl
omit [Lo] in
theorem lw_eq {Z Z' : List Addr} {v v' : Value} {x x' : List (List Nat)} (hu : A.units + 3 < cLine) (h : ∃ a, ∃ vs : List Value, v = .ref a ∧ a ∉ Z ∧ s.heap.PlainList a vs.toArray ∧ SV vs x) (h' : ∃ a, ∃ vs : List Value, v' = .ref a ∧ a ∉ Z' ∧ s.heap.PlainList a vs.toArray ∧ SV vs x') : SeqAt.EqAt A s v v' (decide (x = x')) := by
  obtain ⟨a, us, rfl, _, p, q⟩ := h
  obtain ⟨b, us', rfl, _, p', q'⟩ := h'
  refine eqAt_refs (rc_lists (fun v y v' y' _ _ hy hy' => eqAt_str hy hy') p p' q q' (by (first | lia | omega))).1 fun e => ?_
  subst e
  obtain ⟨n, e1⟩ := p
  obtain ⟨n', e2⟩ := p'
  rw [e1] at e2
  have : us = us' := by
    have := congrArg (fun o => o.map (·.data)) e2
    simp at this; exact this.1
  subst this
  have hxx : x = x' := by
    refine List.ext_getElem? fun i => ?_
    cases hx : us[i]? with
    | none =>
      have l1 := q.length
      have l2 := q'.length
      have := List.getElem?_eq_none_iff.mp hx
      rw [List.getElem?_eq_none (by (first | lia | omega)), List.getElem?_eq_none (by (first | lia | omega))]
    | some v =>
      obtain ⟨l, t, e3, e4⟩ := q.get hx
      obtain ⟨l', t', e5, e6⟩ := q'.get hx
      rw [e4] at e6
      injection e6 with e7
      rw [e3, e5, S_inj e7]
  simpa using hxx
omit [Lo] in
/-- lists of lists of words -/
theorem ne_LW {a b : Addr} {Z Z' : List Addr} {rs us : List Value} {x y : List (List (List Nat))} {Q : Value → Shared → Prop} (ha : s.heap.PlainList a rs.toArray) (hb : s.heap.PlainList b us.toArray) (hx : LW Z s.heap rs x) (hy : LW Z' s.heap us y) (hu : A.units + 5 < cLine)
    (h : Q (.bool (!decide (x = y))) s) : wpAny (model PW w) A (compareOp .NotEq (.ref a) (.ref b)) Q E s := by
  have hx' : LW [] s.heap rs x := hx.keep fun b o _ e _ => ⟨(fun q => nomatch q), e⟩
  have hy' : LW [] s.heap us y := hy.keep fun b o _ e _ => ⟨(fun q => nomatch q), e⟩
  exact (rc_lists (fun v x v' x' _ _ p p' => lw_eq (by show A.units + 1 + 3 < cLine; (first | lia | omega)) p p') ha hb hx' hy' (by (first | lia | omega))).2 PW w _ _ h
omit [Lo] in
theorem eq_emptyD {a b : Addr} {kvs : List (Str × Value)} {Q : Value → Shared → Prop} (ha : (a == sysModules) = false) (hb : (b == sysModules) = false) (da : DK w s.heap a kvs) (db : DK w s.heap b []) (hn : kvs ≠ []) (hu : A.units < cLine) (h : Q (.bool false) s) :
    wpAny (model PW w) A (compareOp .Eq (.ref a) (.ref b)) Q E s := by
  have hl : (kvs.length == ([] : List (Str × Value)).length) = false := by
    cases kvs with
    | nil => exact absurd rfl hn
    | cons _ _ => rfl
  refine keq_eq (r := false) ha hb da db hu (fun e => ?_) ?_
  · rw [e, beq_self_eq_true] at hl; exact nomatch hl
  · rw [hl, Bool.false_and]; exact h
end
end

section
open PySem PySem.W PySem.Calls PyProof.Rows PyProof.V
variable [Lo]
omit [Lo] in
def dueA (ws : List (List Nat)) (g : List Nat → Nat) : List (List (List Nat)) := (List.range ((ws.map g).foldl max 0 + 1)).map fun d => ws.filter fun w => decide (g w = d)
omit [Lo] in
def onceA (ws : List (List Nat)) (due : List (List (List Nat))) : List (List (List Nat)) := due.map fun layer => (srt (dd ws)).filter fun w => decide (w ∈ layer)
omit [Lo] in
def wordsOf (ns : List Int) : List (List Nat) := (([0, 10, 22, 65, 6, 0] : List Int) ++ ns.take 3).map wordOf
omit [Lo] in
structure PlainOk (ws : List (List Nat)) (kd : Int) : Prop where
  hr : ∀ wd ∈ ws, ∀ o ∈ ws, rel kd wd o = true → o.length < wd.length
  rn : ∃ n, RndOk (dd ws) (nd ws kd) n ∧ (roundsA n (addAll (dd ws) (nd ws kd), rdy0 (addAll (dd ws) (nd ws kd)))).map srt = onceA ws (dueA ws (dep ws kd 4))
  ly : (layA (nd ws kd) ws.length [] ws).filter (fun l => decide (l ≠ [])) = dueA ws (dep ws kd 4)
  nl : ∀ l ∈ ws, l ∈ dd ws ∧ (nd ws kd l).length ≤ 20
  db : ∀ l ∈ ws, dep ws kd 4 l ≤ 100
omit [Lo] in
theorem ns_wo {h : Heap} {a : Addr} {m : Str → Option Value} (T : Tab h) (x : h.Ns a m) : (wo [101] h).Ns a m := by
  obtain ⟨o, es, ep, e, d, r⟩ := x
  refine ⟨o, es, ep, (wo_get ?_).trans e, d, r⟩
  rw [List.mem_singleton]; rintro rfl
  obtain ⟨ps, eT, _⟩ := T; rw [eT] at e; cases e; cases d
theorem cx_wo {w : World} {h : Heap} (T : Tab h) (C : Cx w h) : Cx w (wo [101] h) := by
  have ob : ∀ b o, o.cls ≠ .none → h.get? b = some o → (wo [101] h).get? b = some o := fun b o n e => (wo_get (by
    rw [List.mem_singleton]; rintro rfl
    obtain ⟨ps, eT, _⟩ := T; rw [eT] at e; cases e; exact n rfl)).trans e
  refine ⟨fun a o e => ?_, let ⟨mg, x⟩ := C.g; ⟨mg, ns_wo T x⟩, let ⟨mb, x, r⟩ := C.b; ⟨mb, ns_wo T x, r⟩, let ⟨mc, x, r⟩ := C.l; ⟨mc, ns_wo T x, r⟩, ?_, ?_⟩
  · refine (wo_get ?_).trans (C.k a o e)
    rw [List.mem_singleton]; rintro rfl
    have : (KF w.params).lookup 101 = none := by rfl
    rw [this] at e; cases e
  · obtain ⟨b, o, n1, q, e⟩ := C.top
    exact ⟨b, o, n1, q, (wo_get (by simpa using n1)).trans e⟩
  · obtain ⟨mg, bm, o, a1, a2, a3, a4, a5, a6, r⟩ := C.bm
    exact ⟨mg, bm, o, ns_wo T a1, a2, a3, a4, ob _ _ (by rw [a6]; exact fun q => nomatch q) a5, a6, r⟩
theorem Rm.kp' {A : Around} {d : Nat} {h : Heap} (x : Rm A d h) (T : Tab h) : Rm A d (wo [101] h) := by
  refine ⟨x.dep, x.un, x.hd, let ⟨o, e, f⟩ := x.fr; ⟨o, e, ?_⟩⟩
  clear e
  induction o with
  | nil => trivial
  | cons env r ih =>
    obtain ⟨a, ⟨L, ob, es, n, e1, e2, e3, e4⟩, f⟩ := f
    refine ⟨a, ⟨L, ob, es, n, e1, (wo_get ?_).trans e2, e3, e4⟩, ih f⟩
    rw [List.mem_singleton]; rintro rfl
    obtain ⟨ps, eT, _⟩ := T; rw [eT] at e2; cases e2; cases e4.1
omit [Lo] in
theorem ints_get {vs : List Value} {ns : List Int} (h : IntsAre vs ns) : ∀ {i : Nat} {v : Value}, vs[i]? = some v → ∃ x t, ns[i]? = some x ∧ v = .int x t := by
  induction h with
  | nil => intro i v e; simp at e
  | cons x t _ ih =>
    intro i v e
    cases i with
    | zero => simp at e; subst e; exact ⟨_, t, rfl, rfl⟩
    | succ i => simpa using ih (by simpa using e)
omit [Lo] in
def LQ (pv : Addr → Prop) (h : Heap) : List Value → List (List (List Nat)) → Prop := Paired fun v ws => ∃ a, ∃ vs : List Value, v = .ref a ∧ ¬ pv a ∧ h.PlainList a vs.toArray ∧ SV vs ws
omit [Lo] in
theorem LQ.keep {pv pv' : Addr → Prop} {h h' : Heap} {vs : List Value} {xs : List (List (List Nat))} (x : LQ pv h vs xs) (hp : ∀ a, ¬ pv a → ¬ pv' a) (k : ∀ b o, ¬ pv b → h.get? b = some o → o.cls = .type "list" → h'.get? b = some o) : LQ pv' h' vs xs := by
  induction x with
  | nil => exact .nil
  | cons q _ ih =>
    obtain ⟨a, us, rfl, np, ⟨n, e⟩, sv⟩ := q
    exact .cons ⟨a, us, rfl, hp _ np, ⟨n, k a _ np e rfl⟩, sv⟩ ih
omit [Lo] in
theorem LQ.lw {pv : Addr → Prop} {h : Heap} {vs : List Value} {xs : List (List (List Nat))} (x : LQ pv h vs xs) : LW [] h vs xs := by
  induction x with
  | nil => exact .nil
  | cons q _ ih =>
    obtain ⟨a, us, rfl, np, p, sv⟩ := q
    exact .cons ⟨a, us, rfl, (fun q => nomatch q), p, sv⟩ ih
theorem NV.kp {f : List Nat → List (List Nat)} {h h' : Heap} {kvs : List (Str × Value)} {ls : List (List Nat)} (x : NV (fun _ => False) h f kvs ls) (k : Kp h h') : NV (fun _ => False) h' f kvs ls := x.keep (fun _ z => z) fun b o _ e c => k.off b o e (kc c)
theorem LW.kp {h h' : Heap} {vs : List Value} {xs : List (List (List Nat))} (x : LW [] h vs xs) (k : Kp h h') : LW [] h' vs xs := x.keep fun b o n e c => ⟨n, k.off b o e (kc c)⟩
omit [Lo] in
theorem same_LW {w : World} {A : Around} {E : Value → Shared → Prop} {s : Shared} {a b : Addr} {rs us : List Value} {x : List (List (List Nat))} {Q : Value → Shared → Prop} (ha : s.heap.PlainList a rs.toArray) (hb : s.heap.PlainList b us.toArray) (hx : LW [] s.heap rs x) (hy : LW [] s.heap us x) (hu : A.units + 5 < cLine)
    (h : Q (.bool false) s) : wpAny (model PW w) A (compareOp .NotEq (.ref a) (.ref b)) Q E s := ne_LW ha hb hx hy hu (by rw [decide_eq_true rfl]; exact h)
omit [Lo] in
noncomputable def f273 (w : World) : Fn w 273 := ⟨_, _, _, _, rfl⟩
set_option maxHeartbeats 4000000 in
/-- law -/
theorem c_law {w : World} {A : Around} {s : Shared} {d : Nat} (C : Cx w s.heap) (R : Rm A (d + 20) s.heap) (T : Tab s.heap) {sl : Addr} {vs : List Value} {ns : List Int} (hl : s.heap.IsList sl vs.toArray) (hi : IntsAre vs ns) (hlen : ns.length ≤ 100)
    (wok : WOk (wordsOf ns)) (pk : ∀ kd : Int, 0 ≤ kd → kd < 3 → PlainOk (wordsOf ns) kd) :
    codeAny (model PW w) A (.call (.ref 273) ⟨[.ref sl], []⟩) (Ends (fun v s' => v = .bool true ∧ ∃ h' t', s' = { s with heap := h', toks := t' } ∧ Kp (wo [101] s.heap) h' ∧ Tab h') (fun _ _ => False)) s := by
  refine' callC (f273 w) (d := d + 19) [("script", .ref sl)] (upd (fun _ => none) "script" (.ref sl)) (fun _ => none) C R ?h2 ?h3 ?h4 ?h5 ?h6 ?h7 ?h8 ?h9 ?h10 ?h11 ?_
  case h2 => rfl
  case h3 => rfl
  case h4 => rfl
  case h5 => rfl
  case h6 => rfl
  case h7 => rfl
  case h8 => rfl
  case h9 => intro _; rfl
  case h10 => intro _; rfl
  case h11 => rfl
  intro L h₁ t₁ X R' C'
  refine no_exc ?_
  refine cutQ fun P hP => ?_
  have C₀ : Cx w (wo [101] s.heap) := cx_wo T C
  have n101 : (wo [101] s.heap).get? 101 = none := wo_none (List.mem_singleton_self _)
  have X0 : Bd (wo [101] s.heap) _ _ _ h₁ := X.base wo_kp
  have T1 := T.kp X.keep
  have hvl : vs.length = ns.length := hi.length
  have sl1 := il_kp hl X.keep
  ktr_unf
  obtain ⟨xs, hxs⟩ : ∃ xs, xs = (([0, 10, 22, 65, 6, 0] : List Int) ++ ns.take 3) := ⟨_, rfl⟩
  have hws : wordsOf ns = xs.map wordOf := by rw [hxs]; rfl
  refine lc (cl := []) (cmo := fun _ => none) (fun _ _ vs' ys => SV ys ((xs.take vs'.length).map wordOf)) (by rfl) (by rfl) (by decide) (.inl ⟨by rfl, fun _ => by rfl⟩) (fun _ _ _ _ _ _ x => x) (fun _ _ => SV.nil) ?_
  ktr_unf
  refine new_list (fun l2 h2 _ k2 n2 p2 => ?_) (by rw [sizeLine_is]; exact Nat.le_of_ble_eq_true rfl)
  ktr_unf
  refine nm_loc (X0.kp k2).ev (by rfl) ?_
  ktr_unf
  have kS := Kp.push h2 { cls := .type "slice", data := .fields #[.none, .int 3 (t₁ + 1 + 1 + 1 + 1 + 1 + 1), .none] }
  refine sl_L (k := 3) (il_kp (il_kp sl1 k2) kS) (by (first | lia | omega)) ⟨_, Heap.get?_push_size _ rfl, rfl, rfl⟩ fun l3 h3 k3 n3 p3 => ?_
  have k23 : Kp h2 h3 := kS.trans k3
  refine add_lst (pl_kp p2 k23) p3 (fun l4 h4 k4 n4 p4 => ?_) (by simp; (first | lia | omega))
  have X4 := ((X0.kp k2).kp k23).kp k4
  have T4 := ((T1.kp k2).kp k23).kp k4
  have xi : IntsAre (([Value.int 0 t₁, .int 10 (t₁ + 1), .int 22 (t₁ + 1 + 1), .int 65 (t₁ + 1 + 1 + 1), .int 6 (t₁ + 1 + 1 + 1 + 1), .int 0 (t₁ + 1 + 1 + 1 + 1 + 1)] : List Value) ++ vs.take 3) xs := by
    rw [hxs]
    exact .cons _ _ (.cons _ _ (.cons _ _ (.cons _ _ (.cons _ _ (.cons _ _ (hi.take 3))))))
  generalize (([Value.int 0 t₁, .int 10 (t₁ + 1), .int 22 (t₁ + 1 + 1), .int 65 (t₁ + 1 + 1 + 1), .int 6 (t₁ + 1 + 1 + 1 + 1), .int 0 (t₁ + 1 + 1 + 1 + 1 + 1)] : List Value) ++ vs.take 3) = xv at p4 xi
  have hxl : xv.length = xs.length := xi.length
  have hwl : xs.length = (wordsOf ns).length := by rw [hws, List.length_map]
  have hw20 := wok.len
  refine ⟨_, _, _, src_list (X4.rm (R.kp' T)).hd p4, ?_, (fun _ _ q => nomatch q), ?_, ?_⟩
  · rw [sizeLine_is]; (first | lia | omega)
  · intro Cc pv vs' ys v s₃ m₃ cm₃ E3 hlt hPv _ hJ hk _ _ X5 hm _ hcm
    refine wpAny_tests_nil ⟨_, _, rfl, Kp.refl _, ?_⟩
    first | refine pif_t rfl ?_ | refine wif_t rfl ?_ | rw [if_pos rfl]
    refine cutQ fun P₀ hP₀ => ?_
    have hm := hm (by rfl)
    obtain ⟨x, tx, hx, rfl⟩ := ints_get xi hPv
    have X5w := X4.kp hk
    have C5 := X5w.cx C₀
    ktr_unf
    refine nm_glob (v := .ref 231) C5 (by rfl) ?_
    refine callWith_K C5.k (by rfl) ?_
    ktr_unf
    refine nm_loc X5 hm ?_
    ktr_unf
    refine ⟨C5.k, ?_⟩
    refine c_word (d := d + 5) C5 ((X5w.rm (R.kp' T)).mono (by (first | lia | omega))) fun h6 t6 tk6 k6 => ?_
    ktr_unf
    refine ⟨h6, t6, rfl, k6, ?_⟩
    rw [List.length_append, List.length_singleton, take_snoc hx, List.map_append]
    exact hJ.snoc
  · intro W h5 t5 ys vs' pv nW k5 pW hlW _ hJ _ _
    rw [hlW, hxl, List.take_length, ← hws] at hJ
    have X5 := X4.kp k5
    have nW0 : (wo [101] s.heap).get? W = none := X4.keep.none nW
    refine st_cell X5 fun h6 X6 k6 => ?_
    have T6 := (T4.kp k5).ko k6
    have pW6 := pl_ko pW k6
    generalize hWS : wordsOf ns = ws at *
    ktr_unf
    refine for_rule (h₀ := wo [101] s.heap) (binds_cell (by rfl) (by rfl) ⟨_, by rfl⟩) ?_
    ktr_unf
    refine nm_blt (v := .type "range") (X6.cx C₀) (by rfl) rfl ?_
    ktr_unf
    refine call_rng (X6.rm (R.kp' T)).hd (by decide) (by decide) fun ra h7 t7 k7 hS => ?_
    have X7 := X6.kp k7
    have T7 := T6.kp k7
    have pW7 := pl_kp pW6 k7
    refine ⟨_, _, _, _, _, [101], fun I i m cm h => cm "words" = some (.ref W) ∧ Tab h ∧ I ≠ 101 ∧ W ≠ I ∧ h.PlainList W ys.toArray, X7, hS, ?_, ?_, ⟨rfl, T7, ?_, ?_, pW7⟩, ?_, ?_⟩
    · intro z hz
      rw [List.mem_singleton.mp hz]
      exact ⟨(fun q => nomatch q), let ⟨o, e, _⟩ := T7.live; ⟨o, e⟩⟩
    · rintro I i m cm h h' k ⟨a1, ⟨ps, e, r⟩, a3, a4, ⟨nn, e'⟩⟩
      exact ⟨a1, ⟨ps, k _ _ (Ne.symm a3) e (fun q => nomatch q) (fun q => nomatch q), r⟩, a3, a4, nn, k _ _ a4 e' (cn _ _ (by decide)) (cn _ _ (by decide))⟩
    · intro q; obtain ⟨o, e, _⟩ := T7.live; rw [← q, size_none] at e; cases e
    · intro q; obtain ⟨_, e⟩ := pW7; rw [q, size_none] at e; cases e
    · rintro I i v m cm s₂ E₂ hi3 ⟨tk, rfl⟩ hI ⟨oI, hIl, nI1, nI2⟩ X8 k8 ⟨hcw, T8, hI101, hWI, pW8⟩
      refine cutQ fun P₂ hP₂ => ?_
      have hk0 : (0 : Int) ≤ (i : Int) := by (first | lia | omega)
      have hk3 : (i : Int) < 3 := by have : i < (3 : Int).toNat := hi3; (first | lia | omega)
      have pok := pk (i : Int) hk0 hk3
      generalize hkd : (i : Int) = kd at *
      have hW101 : W ≠ 101 := fun q => by rw [q] at pW8; obtain ⟨_, e⟩ := pW8; obtain ⟨ps, e', _⟩ := T8; rw [e'] at e; cases e
      have X8w := X8.wo T8 n101
      have C8 := X8.cx C₀
      have pW8w : (wo [101] s₂.heap).PlainList W ys.toArray := let ⟨nn, e⟩ := pW8; ⟨nn, (wo_get (by simpa using hW101)).trans e⟩
      ktr_unf
      refine nm_glob (v := .ref 251) C8 (by rfl) ?_
      refine callWith_K C8.k (by rfl) ?_
      ktr_unf
      refine nm_cell X8.ev (by exact hcw) ?_
      ktr_unf
      refine nm_cell X8.ev (by rfl) ?_
      ktr_unf
      refine ⟨C8.k, ?_⟩
      refine c_needs (d := d + 10) (X8w.cx C₀) (X8w.rm (R.kp' T)) wo_kp (wo_none (List.mem_singleton_self _)) T8 hk0 hk3 pW8w hJ wok fun D kvs h9 t9 k9 nD T9 D9 V9 sD => ?_
      have X9 := X8w.kp k9
      have pW9 := pl_kp pW8w k9
      refine st_cell X9 fun h10 X10 k10 => ?_
      have T10 := T9.ko k10
      have D10 := dk_ko D9 k10
      have V10 : NV (fun _ => False) h10 (nd ws kd) kvs (dd ws) := V9.keep (fun _ z => z) fun b o _ e c => k10 _ _ e (kc c) (kc c)
      have pW10 := pl_ko pW9 k10
      have hysl : ys.length = ws.length := hJ.length
      ktr_unf
      refine lc (cl := [("words", L + 1), ("kind", L + 2)]) (cmo := upd (upd cm "kind" (.int kd tk)) "needs" (.ref D)) (fun _ _ vs' zs => IV zs ((ws.take vs'.length).map (dep ws kd 4))) (by rfl) (by rfl) (by decide) (.inl ⟨by rfl, fun _ => by rfl⟩) (fun _ _ _ _ _ _ x => x) (fun _ _ => IV.nil) ?_
      refine nm_cell X10.ev (by exact hcw) ?_
      refine ⟨_, _, _, src_list (X10.rm (R.kp' T)).hd pW10, ?_, X10.ev.cells ⟨rfl, rfl, trivial⟩, ?_, ?_⟩
      · rw [sizeLine_is]; (first | lia | omega)
      · intro Cc pv vs' zs v s₃ m₃ cm₃ E3 hlt hPv _ hJ3 hk _ _ X11 hm _ hcm
        refine wpAny_tests_nil ⟨_, _, rfl, Kp.refl _, ?_⟩
        first | refine pif_t rfl ?_ | refine wif_t rfl ?_ | rw [if_pos rfl]
        refine cutQ fun P₀ hP₀ => ?_
        have hm := hm (by rfl)
        obtain ⟨wd, tw, hwd, rfl⟩ := hJ.get hPv
        have Xw := X10.kp hk
        have C11 := Xw.cx C₀
        ktr_unf
        refine nm_glob (v := .ref 268) C11 (by rfl) ?_
        refine callWith_K C11.k (by rfl) ?_
        ktr_unf
        refine nm_cell X11 (by rw [hcm _ (by rfl)]; exact hcw) ?_
        ktr_unf
        refine nm_loc X11 hm ?_
        ktr_unf
        refine nm_cell X11 (by rw [hcm _ (by rfl)]; rfl) ?_
        ktr_unf
        refine ⟨C11.k, ?_⟩
        have hmem : wd ∈ ws := List.mem_of_getElem? hwd
        refine c_depth hk0 hk3 hJ wok pok.hr (d + 2) 4 C11 ((Xw.rm (R.kp' T)).mono (by (first | lia | omega))) (pl_kp pW10 hk) hmem (by have := (wok.each wd hmem).2.1; (first | lia | omega)) fun h12 t12 tk12 k12 => ?_
        ktr_unf
        refine ⟨h12, t12, rfl, k12, ?_⟩
        rw [List.length_append, List.length_singleton, take_snoc hwd, List.map_append]
        exact hJ3.snoc
      · intro Dp h11 t11 zs vs' pv nDp k11 pDp hlDp _ hJ3 _ _
        rw [hlDp, hysl, List.take_length] at hJ3
        have X11 := X10.kp k11
        refine st_cell X11 fun h12 X12 k12 => ?_
        have T12 := (T10.kp k11).ko k12
        have D12 := dk_ko (dk_kp D10 k11) k12
        have V12 : NV (fun _ => False) h12 (nd ws kd) kvs (dd ws) := V10.keep (fun _ z => z) fun b o _ e c => k12 _ _ (k11.off _ _ e (kc c)) (kc c) (kc c)
        have pW12 := pl_ko (pl_kp pW10 k11) k12
        have pDp12 := pl_ko pDp k12
        have zsl : zs.length = ws.length := by rw [Paired.len' hJ3, List.length_map]
        have hcm12 : ∃ cm', cm' = upd (upd (upd cm "kind" (.int kd tk)) "needs" (.ref D)) "depths" (.ref Dp) := ⟨_, rfl⟩
        obtain ⟨cm12, hcm12⟩ := hcm12
        have cW : cm12 "words" = some (.ref W) := by rw [hcm12]; exact hcw
        have cD : cm12 "needs" = some (.ref D) := by rw [hcm12]; rfl
        have cDp : cm12 "depths" = some (.ref Dp) := by rw [hcm12]; rfl
        rw [← hcm12] at X12
        clear hcm12
        generalize hg : dep ws kd 4 = g at *
        have hne : ws.map g ≠ [] := fun q => by
          have : ws = [] := List.map_eq_nil_iff.mp q
          rw [← hWS] at this
          unfold wordsOf at this
          simp at this
        ktr_unf
        refine lc_to (cl := [("words", L + 1), ("depths", L + 4)]) (cmo := cm12) (h₀ := wo [101] s.heap)
          (fun pv h vs' zs => LQ pv h zs ((List.range vs'.length).map fun d => ws.filter fun w => decide (g w = d))) (by rfl) (by rfl) (by rfl) (by decide) (.inr ⟨by decide, fun _ => ⟨by rfl, _, by rfl⟩⟩)
          (fun pv h h' vs' zs kp x => LQ.keep x (fun _ z => z) fun b o np e c => kp b o np e (kc c)) (fun _ _ => .nil) (by rfl) (by rfl) ?_
        ktr_unf
        refine nm_blt (v := .type "range") (X12.cx C₀) (by rfl) rfl ?_
        ktr_unf
        refine nm_blt (v := .builtin "max") (X12.cx C₀) (by rfl) rfl ?_
        ktr_unf
        refine nm_cell X12.ev cDp ?_
        ktr_unf
        refine max_L (X12.rm (R.kp' T)).hd pDp12 hJ3 hne fun h13 M tM t13 k13 hM1 hM2 => ?_
        have hM : (ws.map g).foldl max 0 = M := by
          have h1 := foldl_max (ws.map g) 0
          rcases h1.2.2 with q | q
          · have := h1.1 M hM1; rw [q] at this; rw [q]; (first | lia | omega)
          · exact Nat.le_antisymm (hM2 _ q) (h1.1 M hM1)
        ktr_unf
        have hM100 : M ≤ 100 := by
          obtain ⟨l, hl, e⟩ := List.mem_map.mp hM1
          rw [← e, ← hg]
          exact pok.db l hl
        have X13 := X12.kp k13
        refine call_rng (X13.rm (R.kp' T)).hd (by (first | lia | omega)) (by (first | lia | omega)) fun ra h14 t14 k14 hS => ?_
        rw [show ((M : Int) + 1).toNat = M + 1 by (first | lia | omega)] at hS
        have X14 := X13.kp k14
        have pW14 := pl_kp (pl_kp pW12 k13) k14
        have pDp14 := pl_kp (pl_kp pDp12 k13) k14
        refine ⟨_, _, _, _, _, X14, hS, ?_, X14.ev.cells ⟨rfl, rfl, trivial⟩, ?_, ?_⟩
        · rw [sizeLine_is]; (first | lia | omega)
        · intro Cc pv vs' us v s₃ m₃ cm₃ E3 hlt hPv _ hJ4 hk hlive _ X15 _ hcx hcm
          refine wpAny_tests_nil ⟨_, _, rfl, Kp.refl _, ?_⟩
          first | refine pif_t rfl ?_ | refine wif_t rfl ?_ | rw [if_pos rfl]
          refine cutQ fun P₀ hP₀ => ?_
          have e3 := hcx _ rfl
          obtain ⟨td, rfl⟩ := hPv
          have e1 : cm₃ "words" = some (.ref W) := by rw [hcm _ (by rfl)]; exact cW
          have e2 : cm₃ "depths" = some (.ref Dp) := by rw [hcm _ (by rfl)]; exact cDp
          have Xw := X14.kp hk
          have C15 := Xw.cx C₀
          refine lc (cl := [("words", L + 1), ("depths", L + 4), ("depth", Cc + 1)]) (cmo := cm₃) (fun _ _ vs ys => SV ys ((ws.take vs.length).filter fun u => decide (g u = vs'.length))) (by rfl) (by rfl) (by decide) (.inl ⟨by rfl, fun _ => by rfl⟩) (fun _ _ _ _ _ _ x => x) (fun _ _ => SV.nil) ?_
          ktr_unf
          refine nm_blt (v := .type "range") C15 (by rfl) rfl ?_
          ktr_unf
          refine nm_blt (v := .builtin "len") C15 (by rfl) rfl ?_
          ktr_unf
          refine nm_cell X15 e1 ?_
          ktr_unf
          refine len_L (pl_kp pW14 hk) (by (first | lia | omega)) ?_
          ktr_unf
          refine call_rng (Xw.rm (R.kp' T)).hd (by (first | lia | omega)) (by (first | lia | omega)) fun rb h16 t16 k16 hS2 => ?_
          rw [show ((ys.length : Nat) : Int).toNat = ys.length by (first | lia | omega)] at hS2
          refine ⟨_, _, _, hS2, ?_, (X15.kp k16).cells ⟨rfl, rfl, rfl, trivial⟩, ?_, ?_⟩
          · rw [sizeLine_is]; (first | lia | omega)
          · intro Cd pv4 vs4 ys4 v4 s₅ m4 cm4 E4 hlt4 hP4 _ hJ5 hk9 _ _ X16 hm4 _ hcm4
            refine cutQ fun P₀ hP₀ => ?_
            have hm4 := hm4 (by rfl)
            obtain ⟨uk, rfl⟩ := hP4
            have f1 : cm4 "words" = some (.ref W) := by rw [hcm4 _ (by rfl)]; exact e1
            have f2 : cm4 "depths" = some (.ref Dp) := by rw [hcm4 _ (by rfl)]; exact e2
            have f3 : cm4 "depth" = some (.int (vs'.length : Int) td) := by rw [hcm4 _ (by rfl)]; exact e3
            have kall := (hk.trans k16).trans hk9
            obtain ⟨wk, hwk⟩ : ∃ wk, ws[vs4.length]? = some wk := ⟨ws[vs4.length]'(by (first | lia | omega)), List.getElem?_eq_getElem _⟩
            obtain ⟨tk, hvk⟩ := hJ.at hwk
            obtain ⟨_, hz, tz, rfl⟩ := Paired.at' hJ3 (i := vs4.length) (b := g wk) (by rw [List.getElem?_map, hwk]; rfl)
            refine wpAny_tests_one ?_
            ktr_unf
            refine nm_cell X16 f2 ?_
            ktr_unf
            refine nm_loc X16 hm4 ?_
            refine sub_list (pl_kp pDp14 kall) (by (first | lia | omega)) (by simpa using hz) ?_ (by (first | lia | omega))
            ktr_unf
            refine nm_cell X16 f3 ?_
            ktr_unf
            have eT : (ws.take (vs4 ++ [Value.int (vs4.length : Int) uk]).length).filter (fun u => decide (g u = vs'.length)) = (ws.take vs4.length).filter (fun u => decide (g u = vs'.length)) ++ [wk].filter (fun u => decide (g u = vs'.length)) := by
              rw [List.length_append, List.length_singleton, take_snoc hwk, List.filter_append]
            refine ⟨_, _, rfl, Kp.refl _, ?_⟩
            rw [eT]
            by_cases hq : g wk = vs'.length
            · first | refine pif_t (by rw [hq, beq_self_eq_true]) ?_ | refine wif_t (by rw [hq, beq_self_eq_true]) ?_ | rw [if_pos (by rw [hq, beq_self_eq_true])]
              ktr_unf
              refine nm_cell X16 f1 ?_
              ktr_unf
              refine nm_loc X16 hm4 ?_
              refine sub_list (pl_kp pW14 kall) (by (first | lia | omega)) (by simpa using hvk) ?_ (by (first | lia | omega))
              refine ⟨_, _, rfl, Kp.refl _, ?_⟩
              simpa [hq] using hJ5.snoc
            · first | refine pif_f (by rw [beq_iff_eq]; (first | lia | omega)) ?_ | refine wif_f (by rw [beq_iff_eq]; (first | lia | omega)) ?_ | rw [if_neg (by rw [beq_iff_eq]; (first | lia | omega))]
              simpa [hq] using hJ5
          · intro D4 h9 t9 ys4 vs4 pv4 hD4 hk9 hlD4 hlen4 hP4 hJ5 _ _
            rw [hlen4, hysl, List.take_length] at hJ5
            have k316 := k16.trans hk9
            ktr_unf
            refine ⟨h9, t9, rfl, k316, ?_⟩
            have hJ4' := LQ.keep hJ4 (fun _ z => z) fun b o np e c => k316.off b o e (kc c)
            have n3 : s₃.heap.get? D4 = none := k16.none hD4
            have nap : ¬ pv D4 := fun hb => by obtain ⟨o, e⟩ := hlive D4 hb; rw [e] at n3; cases n3
            rw [List.length_append, List.length_singleton, List.range_succ, List.map_append]
            exact Paired.snoc hJ4' ⟨D4, ys4, rfl, nap, hlD4, hJ5⟩
        · intro Du h15 t15 us vs' pv nDu X15 k15 pDu hlDu _ hJ4 hpv _
          rw [hlDu, ← hM] at hJ4
          have hJ4 : LQ pv h15 us (dueA ws g) := hJ4
          obtain ⟨rn, hrn, hro⟩ := pok.rn
          have kL := hrn.kL
          have hdl : us.length ≤ 101 := by rw [Paired.len' hJ4]; unfold dueA; rw [List.length_map, List.length_range, hM]; (first | lia | omega)
          have T15 := ((T12.kp k13).kp k14).ko k15
          have pW15 := pl_ko pW14 k15
          have D15 := dk_ko (dk_kp (dk_kp D12 k13) k14) k15
          have V15 : NV (fun _ => False) h15 (nd ws kd) kvs (dd ws) := V12.keep (fun _ z => z) fun b o _ e c => k15 _ _ (k14.off _ _ (k13.off _ _ e (kc c)) (kc c)) (kc c) (kc c)
          ktr_unf
          refine lc_to (cl := [("needs", L + 3)]) (cmo := cm12) (h₀ := wo [101] s.heap)
            (fun pv h vs' zs => LQ pv h zs (onceA ws ((dueA ws g).take vs'.length))) (by rfl) (by rfl) (by rfl) (by decide) (.inr ⟨by decide, fun _ => ⟨by rfl, _, by rfl⟩⟩)
            (fun pv h h' vs' zs kp x => LQ.keep x (fun _ z => z) fun b o np e c => kp b o np e (kc c)) (fun _ _ => .nil) (by rfl) (by rfl) ?_
          refine nm_loc X15.ev (by rfl) ?_
          refine ⟨_, _, _, _, _, X15, src_list (X15.rm (R.kp' T)).hd pDu, ?_, X15.ev.cells ⟨rfl, trivial⟩, ?_, ?_⟩
          · rw [sizeLine_is]; (first | lia | omega)
          · intro Cc pv' vs' os v s₃ m₃ cm₃ E3 hlt hPv _ hJ5 hk hlive _ X16 _ hcx hcm
            refine wpAny_tests_nil ⟨_, _, rfl, Kp.refl _, ?_⟩
            first | refine pif_t rfl ?_ | refine wif_t rfl ?_ | rw [if_pos rfl]
            refine cutQ fun P₀ hP₀ => ?_
            have e3 := hcx _ rfl
            obtain ⟨ly, hly, a, lvs, rfl, _, pa, sva⟩ := Paired.get' hJ4 hPv
            have e1 : cm₃ "needs" = some (.ref D) := by rw [hcm _ (by rfl)]; exact cD
            have Xw := X15.kp hk
            have C16 := Xw.cx C₀
            refine lc (cl := [("layer", Cc + 1)]) (cmo := cm₃) (fun _ _ vs ys => SV ys (((srt (dd ws)).take vs.length).filter fun u => decide (u ∈ ly))) (by rfl) (by rfl) (by decide) (.inl ⟨by rfl, fun _ => by rfl⟩) (fun _ _ _ _ _ _ x => x) (fun _ _ => SV.nil) ?_
            ktr_unf
            refine nm_blt (v := .builtin "sorted") C16 (by rfl) rfl ?_
            ktr_unf
            refine nm_cell X16 e1 ?_
            ktr_unf
            refine sorted_D (Xw.rm (R.kp' T)).hd sD (dk_kp D15 hk) V15.keys (by (first | lia | omega)) fun Sa su h17 t17 k17 nSa pSa suS => ?_
            have sul : su.length = (dd ws).length := by rw [suS.length]; exact (srt_perm _).length_eq
            refine ⟨_, _, _, src_list ((Xw.kp k17).rm (R.kp' T)).hd pSa, ?_, (X16.kp k17).cells ⟨rfl, trivial⟩, ?_, ?_⟩
            · rw [sizeLine_is]; (first | lia | omega)
            · intro Cd pv4 vs4 ys4 v4 s₅ m4 cm4 E4 hlt4 hP4 _ hJ6 hk9 _ _ X17 hm4 _ hcm4
              refine cutQ fun P₀ hP₀ => ?_
              have hm4 := hm4 (by rfl)
              obtain ⟨wd, tw, hwd, rfl⟩ := suS.get hP4
              have f3 : cm4 "layer" = some (.ref a) := by rw [hcm4 _ (by rfl)]; exact e3
              have kall := (hk.trans k17).trans hk9
              refine wpAny_tests_one ?_
              ktr_unf
              refine nm_loc X17 hm4 ?_
              ktr_unf
              refine nm_cell X17 f3 ?_
              ktr_unf
              refine in_SV (pl_kp pa kall) sva ?_
              ktr_unf
              have eT : ((srt (dd ws)).take (vs4 ++ [Value.str (S wd) tw]).length).filter (fun u => decide (u ∈ ly)) = ((srt (dd ws)).take vs4.length).filter (fun u => decide (u ∈ ly)) ++ [wd].filter (fun u => decide (u ∈ ly)) := by
                rw [List.length_append, List.length_singleton, take_snoc hwd, List.filter_append]
              refine ⟨_, _, rfl, Kp.refl _, ?_⟩
              rw [eT]
              by_cases hq : wd ∈ ly
              · first | refine pif_t (by simpa using hq) ?_ | refine wif_t (by simpa using hq) ?_ | rw [if_pos (by simpa using hq)]
                refine nm_loc X17 hm4 ?_
                refine ⟨_, _, rfl, Kp.refl _, ?_⟩
                simpa [hq] using hJ6.snoc
              · first | refine pif_f (by simpa using hq) ?_ | refine wif_f (by simpa using hq) ?_ | rw [if_neg (by simpa using hq)]
                simpa [hq] using hJ6
            · intro D4 h9 t9 ys4 vs4 pv4 hD4 hk9 hlD4 hlen4 hP4 hJ6 _ _
              rw [hlen4, suS.length, List.take_length] at hJ6
              have k316 := k17.trans hk9
              ktr_unf
              refine ⟨h9, t9, rfl, k316, ?_⟩
              have hJ5' := LQ.keep hJ5 (fun _ z => z) fun b o np e c => k316.off b o e (kc c)
              have n3 : s₃.heap.get? D4 = none := k17.none hD4
              have nap : ¬ pv' D4 := fun hb => by obtain ⟨o, e⟩ := hlive D4 hb; rw [e] at n3; cases n3
              unfold onceA
              rw [List.length_append, List.length_singleton, take_snoc hly, List.map_append]
              exact Paired.snoc hJ5' ⟨D4, ys4, rfl, nap, hlD4, hJ6⟩
          · intro On h16 t16 os vs' pv' nOn X16 k16 pOn hlOn _ hJ5 _ _
            rw [hlOn, Paired.len' hJ4, List.take_length] at hJ5
            have T16 := T15.ko k16
            have pW16 := pl_ko pW15 k16
            have pDu16 := pl_ko pDu k16
            have D16 := dk_ko D15 k16
            have V16 : NV (fun _ => False) h16 (nd ws kd) kvs (dd ws) := V15.keep (fun _ z => z) fun b o _ e c => k16 _ _ e (kc c) (kc c)
            have L16 : LW [] h16 us (dueA ws g) := (LQ.keep (pv' := fun _ => False) hJ4 (fun _ _ z => z) fun b o _ e c => k16 _ _ e (kc c) (kc c)).lw
            have O16 : LW [] h16 os (onceA ws (dueA ws g)) := (LQ.keep (pv' := fun _ => False) hJ5 (fun _ _ z => z) fun b o _ e c => e).lw
            ktr_unf
            refine nm_cell X16.ev cD ?_
            ktr_unf
            refine wpAny_Dict_empty ?_
            ktr_unf
            have k17 := Kp.push h16 { cls := .type "dict", data := .dict #[] }
            have dE : DK w (h16.push { cls := .type "dict", data := .dict #[] }) h16.objs.size [] := ⟨_, #[], 0, Heap.get?_push_size _ rfl, ⟨rfl, rfl, rfl⟩, rfl, fun _ he => by simp at he, Pairs.nil, List.nodup_nil⟩
            have nE1 : (h16.objs.size == sysModules) = false := beq_eq_false_iff_ne.mpr fun q => by
              have q : h16.objs.size = 1 := q
              obtain ⟨_, e, _⟩ := T16.live
              have h3 : 101 < h16.objs.size := Heap.lt_size e
              rw [q] at h3
              exact absurd h3 (by decide)
            have hkv : kvs ≠ [] := fun q => by
              have := V16.keys
              rw [q] at this
              have h0 : dd ws = [] := List.map_eq_nil_iff.mp this.symm
              have h1 := (pok.nl _ (List.mem_of_getElem? (show ws[0]? = some (wordOf 0) by rw [← hWS]; rfl))).1
              rw [h0] at h1
              exact nomatch h1
            have hun := (X16.rm (R.kp' T)).un
            refine eq_emptyD sD nE1 (dk_kp D16 k17) dE hkv (by show _ < _; (first | lia | omega)) ?_
            generalize h16.push { cls := .type "dict", data := .dict #[] } = h17 at *
            have X17 := X16.kp k17
            have C17 := X17.cx C₀
            ktr_unf
            first | refine pif_f (by decide) ?_ | refine wif_f (by decide) ?_ | rw [if_neg (by decide)]
            ktr_unf
            refine nm_glob (v := .ref 258) C17 (by rfl) ?_
            refine callWith_K C17.k (by rfl) ?_
            ktr_unf
            refine nm_cell X17.ev cD ?_
            ktr_unf
            refine ⟨C17.k, ?_⟩
            refine c_rounds (d := d + 11) C17 (X17.rm (R.kp' T)) sD (dk_kp D16 k17) (V16.kp k17) hrn fun ra rs h18 t18 k18 nra pra r18 => ?_
            rw [hro, hg] at r18
            have X18 := X17.kp k18
            have C18 := X18.cx C₀
            have k1618 := k17.trans k18
            ktr_unf
            refine nm_loc X18.ev (by rfl) ?_
            refine same_LW pra (pl_kp pOn k1618) r18 (O16.kp k1618) (by show _ < _; (first | lia | omega)) ?_
            ktr_unf
            first | refine pif_f (by decide) ?_ | refine wif_f (by decide) ?_ | rw [if_neg (by decide)]
            ktr_unf
            refine nm_glob (v := .ref 263) C18 (by rfl) ?_
            refine callWith_K C18.k (by rfl) ?_
            ktr_unf
            refine nm_cell X18.ev cW ?_
            ktr_unf
            refine nm_cell X18.ev cD ?_
            ktr_unf
            refine ⟨C18.k, ?_⟩
            refine c_layers (d := d + 11) C18 (X18.rm (R.kp' T)) (pl_kp pW16 k1618) hJ (dk_kp D16 k1618) (V16.kp k1618) hw20 pok.nl fun la ls h19 t19 k19 nla pla l19 => ?_
            rw [pok.ly, hg] at l19
            have X19 := X18.kp k19
            have k1619 := k1618.trans k19
            ktr_unf
            refine nm_loc X19.ev (by rfl) ?_
            refine same_LW pla (pl_kp pDu16 k1619) l19 (L16.kp k1619) (by show _ < _; (first | lia | omega)) ?_
            ktr_unf
            first | refine pif_f (by decide) ?_ | refine wif_f (by decide) ?_ | rw [if_neg (by decide)]
            ktr_unf
            first | refine pif_f (by decide) ?_ | refine wif_f (by decide) ?_ | rw [if_neg (by decide)]
            ktr_unf
            exact ⟨h19, t19, _, _, rfl, X19, (fun b o hb e n1 n2 => k1619.off _ _ (k16 _ _ (k15 _ _ (k14.off _ _ (k13.off _ _ (k12 _ _ (k11.off _ _ (k10 _ _ (k9.off _ _ ((wo_get hb).trans e) n1) n1 n2) n1) n1 n2) n1) n1) n1 n2) n1 n2) n1), cW, T16.kp k1619, hI101, hWI, pl_kp pW16 k1619⟩
    · rintro I m cm h8 t8 hI X8 k8 ⟨_, T8, _⟩
      ktr_unf
      exact ⟨rfl, _, _, rfl, X8.keep, T8⟩
end

section
open PySem PySem.W PySem.Calls PyProof.Rows PyProof.V
def PlainLaw : Prop := ∀ ns : List Int, ns.length ≤ 63 → WOk (wordsOf ns) ∧ ∀ kd : Int, 0 ≤ kd → kd < 3 → PlainOk (wordsOf ns) kd
/-- the greatest address in use -/
theorem top_live {h : Heap} {b₀ : Addr} (h0 : 101 < b₀) (e0 : ∃ o, h.get? b₀ = some o) : ∀ m, (∀ b o, h.get? b = some o → b < m) → ∃ n, (∀ b o, h.get? b = some o → b < n) ∧ ∃ b o, b ≠ 101 ∧ n ≤ b + 1 ∧ h.get? b = some o
  | 0, H => absurd (H _ _ e0.choose_spec) (Nat.not_lt_zero _)
  | m + 1, H => by
    cases e : h.get? m with
    | some o =>
      refine ⟨m + 1, H, m, o, fun q => ?_, Nat.le_refl _, e⟩
      have := H _ _ e0.choose_spec
      subst q
      exact absurd (Nat.lt_of_lt_of_le h0 (Nat.le_of_lt_succ this)) (Nat.lt_irrefl _)
    | none =>
      refine top_live h0 e0 m fun b o q => ?_
      have := H b o q
      rcases Nat.lt_or_eq_of_le (Nat.le_of_lt_succ this) with h1 | h1
      · exact h1
      · subst h1; rw [e] at q; cases q
/-- the law's walk, started from the ground -/
theorem law_ends {w : World} {s : Shared} {mg mb : Str → Option Value} (KX : (KF w.params).In s.heap) (g : s.heap.Ns mainGlobals mg) (b : s.heap.Ns builtinsNs mb) (hb : ∀ x : Str, x ≠ "__name__" → mb x = bootBuiltins x) (hl : s.heap.NoLimit)
    (hm : ∃ bm ob, mg "__builtins__" = some (.ref bm) ∧ bm ≠ builtinsNs ∧ s.heap.get? bm = some ob ∧ ob.cls = .type "module" ∧ ob.dict = some builtinsNs ∧ ob.data = .plain) (h101 : s.heap.get? 101 = some (tabObj #[]))
    {sl : Addr} {vs : List Value} {ns : List Int} (il : s.heap.IsList sl vs.toArray) (hi : IntsAre vs ns) (hlen : ns.length ≤ 63) (plain : PlainLaw) :
    codeAny (model PW w) callerA (.call (.ref 273) ⟨[.ref sl], []⟩) (Ends (fun v s' => v = .bool true ∧ ∃ h' t', s' = { s with heap := h', toks := t' } ∧ OldK s.heap h') (fun _ _ => False)) s := by
  obtain ⟨ow, ps⟩ := plain ns hlen
  have e105 : ∃ o, s.heap.get? 105 = some o := ⟨_, KX 105 _ (by rfl)⟩
  obtain ⟨n, hn, top⟩ := top_live (b₀ := 105) (by decide) e105 s.heap.objs.size fun b o e => Heap.lt_size e
  letI : Lo := ⟨n⟩
  have C : Cx w s.heap := by
    refine ⟨KX, ⟨mg, g⟩, ⟨mb, b, hb⟩, hl, top, ?_⟩
    obtain ⟨bm, ob, a1, a2, a3, a4, a5, a6⟩ := hm
    refine ⟨mg, bm, ob, g, a1, a2, fun q => ?_, a3, a4, a5, a6⟩
    obtain ⟨o, es, ep, e, d, _⟩ := g
    rw [← q, a3] at e
    cases e
    rw [a6] at d
    cases d
  have R : Rm callerA (0 + 20) s.heap := ⟨by decide, by decide, rfl, [], rfl, trivial⟩
  have T : Tab s.heap := ⟨#[], h101, trivial⟩
  refine codeAny_mono (c_law C R T il hi (by (first | lia | omega)) ow ps) fun r s' e => ?_
  cases r with
  | error e' => exact e
  | ok f =>
    cases f with
    | ret v =>
      obtain ⟨hv, h', t', rfl, k, ps', eT, _⟩ := e
      refine ⟨hv, h', t', rfl, fun b o e => ?_, fun b o e => ?_⟩
      · by_cases q : b = 101
        · subst q
          rw [h101] at e
          cases e
          refine .inr (.inl ⟨⟨105, _, _, KX 105 _ (by rfl), rfl, rfl, by rfl⟩, rfl, #[], ps', rfl, ?_⟩)
          rw [eT, Array.empty_append]
        · exact .inl (k.lo ((wo_get (by simpa using q)).trans e) (hn b o e))
      · by_cases q : b = 101
        · subst q; exact ⟨_, eT⟩
        · exact ⟨o, k.lo ((wo_get (by simpa using q)).trans e) (hn b o e)⟩
    | next => exact e
    | brk => exact e
    | cont => exact e
set_option maxHeartbeats 8000000 in
/-- the head and the walk, joined -/
theorem joined (plain : PlainLaw) : PySem.Challenge.rw_aa0059_01.Holds := by
  refine Mine.hd ?_
  intro w s₀ s₁ mg mb G Y fa o pm cd doc dV kV ho hd hcd hD hmg hg args vals as hpre hlay hrd hwl hlo
  have KX := km_in_of Y
  have hT8 := km_tabs_of Y
  refine Ground.open G ?_
  intro T B D TE TW
  clear D B TE TW
  have hfa : fa = 273 := by
    have := mg_of KX T.g (n := "law") (v := .ref 273) (by rfl)
    have h2 := this.symm.trans hmg
    injection h2 with h3
    injection h3 with h4
    exact h4.symm
  subst hfa
  wrow_args hpre hlay hrd hwl hlo
  rename_i hL ra w1 r0 hI hr hc1 hc2
  refine enter_call ?_
  clear hd hcd hD hmg
  refine codeAny_mono (law_ends KX T.g T.b T.builtins T.nolimit T.bmain (hT8 101 (by simp)) hL hI (by (first | lia | omega)) plain) fun r s' e => ?_
  cases r with
  | error e' => exact e.elim
  | ok f =>
    cases f with
    | ret v =>
      obtain ⟨rfl, h', t', rfl, K⟩ := e
      exact ⟨.inl ⟨_, _, [], rfl, fun _ => rfl, .bool true, (by wrow_post), fun _ => ⟨List.nodup_nil, fun _ q => nomatch q⟩⟩, K, rfl, AllBare.of_eq hg⟩
    | next => exact e.elim
    | brk => exact e.elim
    | cont => exact e.elim
end

section
open PySem PySem.W
abbrev W := List Nat
theorem find_np {wd : W} {f : Int → Int} {y : W} : ∀ g : List AN, (npA wd f g).find? (fun p => p.1 = y) = (g.find? fun p => p.1 = y).map fun p => if p.1 = wd then (p.1, f p.2.1, p.2.2) else p
  | [] => rfl
  | p :: g => by
    have ih := find_np (wd := wd) (f := f) (y := y) g
    unfold npA at ih ⊢
    rw [List.map_cons, List.find?_cons, List.find?_cons]
    have e : (if p.1 = wd then (p.1, f p.2.1, p.2.2) else p).1 = p.1 := by split <;> rfl
    rw [e]
    by_cases h : p.1 = y
    · rw [decide_eq_true h]; rfl
    · rw [decide_eq_false h]; exact ih
theorem find_sc {wd x : W} {y : W} : ∀ g : List AN, (scA wd x g).find? (fun p => p.1 = y) = (g.find? fun p => p.1 = y).map fun p => if p.1 = wd then (p.1, p.2.1, p.2.2 ++ [x]) else p
  | [] => rfl
  | p :: g => by
    have ih := find_sc (wd := wd) (x := x) (y := y) g
    unfold scA at ih ⊢
    rw [List.map_cons, List.find?_cons, List.find?_cons]
    have e : (if p.1 = wd then (p.1, p.2.1, p.2.2 ++ [x]) else p).1 = p.1 := by split <;> rfl
    rw [e]
    by_cases h : p.1 = y
    · rw [decide_eq_true h]; rfl
    · rw [decide_eq_false h]; exact ih
theorem find_mem {g : List AN} {y : W} : y ∈ g.map (·.1) ↔ ∃ p, g.find? (fun p => p.1 = y) = some p ∧ p.1 = y := by
  constructor
  · intro h
    obtain ⟨p, hp, e⟩ := List.mem_map.mp h
    cases q : g.find? (fun p => p.1 = y) with
    | none => exact absurd e (by simpa using List.find?_eq_none.mp q p hp)
    | some p' => exact ⟨p', rfl, by simpa using List.find?_some q⟩
  · rintro ⟨p, q, e⟩
    exact List.mem_map.mpr ⟨p, List.mem_of_find?_eq_some q, e⟩
theorem np_np {wd : W} {f : Int → Int} {g : List AN} {y : W} (h : y ≠ wd) : npOf (npA wd f g) y = npOf g y := by
  unfold npOf
  rw [find_np]
  cases q : g.find? (fun p => p.1 = y) with
  | none => rfl
  | some p =>
    have e : p.1 = y := by simpa using List.find?_some q
    simp [e, h]
theorem np_np_self {wd : W} {f : Int → Int} {g : List AN} (h : wd ∈ g.map (·.1)) : npOf (npA wd f g) wd = f (npOf g wd) := by
  obtain ⟨p, q, e⟩ := find_mem.mp h
  unfold npOf
  rw [find_np, q]
  simp [e]
theorem sc_np {wd : W} {f : Int → Int} {g : List AN} {y : W} : scOf (npA wd f g) y = scOf g y := by
  unfold scOf
  rw [find_np]
  cases q : g.find? (fun p => p.1 = y) with
  | none => rfl
  | some p => by_cases h : p.1 = wd <;> simp [h]
theorem np_sc {wd x : W} {g : List AN} {y : W} : npOf (scA wd x g) y = npOf g y := by
  unfold npOf
  rw [find_sc]
  cases q : g.find? (fun p => p.1 = y) with
  | none => rfl
  | some p => by_cases h : p.1 = wd <;> simp [h]
theorem sc_sc {wd x : W} {g : List AN} {y : W} (h : wd ∈ g.map (·.1)) : scOf (scA wd x g) y = if y = wd then scOf g y ++ [x] else scOf g y := by
  unfold scOf
  rw [find_sc]
  split
  · rename_i e
    subst e
    obtain ⟨p, q, e⟩ := find_mem.mp h
    rw [q]
    simp [e]
  · rename_i n
    cases q : g.find? (fun p => p.1 = y) with
    | none => rfl
    | some p =>
      have e : p.1 = y := by simpa using List.find?_some q
      simp [e, n]
theorem find_gni {wd y : W} {g : List AN} : ((gniA wd g).find? fun p => p.1 = y) = g.find? (fun p => p.1 = y) ∨ (g.find? (fun p => p.1 = y) = none ∧ ((gniA wd g).find? fun p => p.1 = y) = some (wd, 0, [])) := by
  unfold gniA
  split
  · exact .inl rfl
  · rw [List.find?_append]
    cases q : g.find? (fun p => p.1 = y) with
    | some p => exact .inl rfl
    | none =>
      rw [Option.none_or, List.find?_cons]
      by_cases h : wd = y
      · refine .inr ⟨rfl, ?_⟩; rw [decide_eq_true h]
      · refine .inl ?_; rw [decide_eq_false h]; rfl
theorem np_gni {wd y : W} {g : List AN} : npOf (gniA wd g) y = npOf g y := by
  unfold npOf
  rcases find_gni (wd := wd) (y := y) (g := g) with e | ⟨e, e'⟩
  · rw [e]
  · rw [e, e']; rfl
theorem sc_gni {wd y : W} {g : List AN} : scOf (gniA wd g) y = scOf g y := by
  unfold scOf
  rcases find_gni (wd := wd) (y := y) (g := g) with e | ⟨e, e'⟩
  · rw [e]
  · rw [e, e']; rfl
theorem mem_gni {wd y : W} {g : List AN} : y ∈ (gniA wd g).map (·.1) ↔ y ∈ g.map (·.1) ∨ y = wd := by
  unfold gniA
  split
  · rename_i h
    obtain ⟨p, hp, e⟩ := List.any_eq_true.mp h
    refine ⟨.inl, fun q => q.elim id fun q => ?_⟩
    rw [q, ← beq_iff_eq.mp e]
    exact List.mem_map_of_mem hp
  · simp
/-- one predecessor added -/
theorem pred_is {wd p : W} {g : List AN} : (∀ y, y ∈ (predA wd g p).map (·.1) ↔ y ∈ g.map (·.1) ∨ y = p) ∧ (∀ y, npOf (predA wd g p) y = npOf g y) ∧ ∀ u, scOf (predA wd g p) u = if u = p then scOf g u ++ [wd] else scOf g u := by
  unfold predA
  refine ⟨fun y => by rw [sc_fst, mem_gni], fun y => by rw [np_sc, np_gni], fun u => ?_⟩
  rw [sc_sc (mem_gni.mpr (.inr rfl)), sc_gni]
theorem preds_is {wd : W} : ∀ (ps : List W) (g : List AN), (∀ y, y ∈ (ps.foldl (predA wd) g).map (·.1) ↔ y ∈ g.map (·.1) ∨ y ∈ ps) ∧ (∀ y, npOf (ps.foldl (predA wd) g) y = npOf g y) ∧
    (∀ u v, (scOf (ps.foldl (predA wd) g) u).count v = (scOf g u).count v + if v = wd then ps.count u else 0) ∧ ∀ u, (scOf (ps.foldl (predA wd) g) u).length ≤ (scOf g u).length + ps.length
  | [], g => ⟨by simp, fun _ => rfl, by simp, fun _ => Nat.le_refl _⟩
  | p :: ps, g => by
    obtain ⟨h1, h2, h3, h4⟩ := preds_is ps (predA wd g p)
    obtain ⟨p1, p2, p3⟩ := pred_is (wd := wd) (p := p) (g := g)
    refine ⟨fun y => ?_, fun y => (h2 y).trans (p2 y), fun u v => ?_, fun u => ?_⟩
    · rw [List.foldl_cons, h1, p1, List.mem_cons, or_assoc]
    · rw [List.foldl_cons, h3, p3, List.count_cons]
      by_cases e : u = p
      · subst e
        rw [if_pos rfl, List.count_append, List.count_singleton, beq_self_eq_true]
        by_cases q : v = wd
        · subst q; simp; (first | lia | omega)
        · have : (wd == v) = false := beq_eq_false_iff_ne.mpr (Ne.symm q)
          simp [q, this]
      · have : (p == u) = false := beq_eq_false_iff_ne.mpr (Ne.symm e)
        rw [if_neg e, this]; simp
    · have := h4 u
      rw [p3] at this
      rw [List.foldl_cons, List.length_cons]
      split at this
      · rw [List.length_append, List.length_singleton] at this; (first | lia | omega)
      · (first | lia | omega)
/-- one call of add -/
theorem add_is {wd : W} {g : List AN} {ps : List W} : (∀ y, y ∈ (addA g wd ps).map (·.1) ↔ y ∈ g.map (·.1) ∨ y = wd ∨ y ∈ ps) ∧ (∀ y, npOf (addA g wd ps) y = npOf g y + if y = wd then (ps.length : Int) else 0) ∧
    (∀ u v, (scOf (addA g wd ps) u).count v = (scOf g u).count v + if v = wd then ps.count u else 0) ∧ ∀ u, (scOf (addA g wd ps) u).length ≤ (scOf g u).length + ps.length := by
  unfold addA
  obtain ⟨h1, h2, h3, h4⟩ := preds_is (wd := wd) ps (npA wd (· + ps.length) (gniA wd g))
  refine ⟨fun y => ?_, fun y => ?_, fun u v => ?_, fun u => ?_⟩
  · rw [h1, np_fst, mem_gni, or_assoc]
  · rw [h2]
    by_cases e : y = wd
    · subst e; rw [np_np_self (mem_gni.mpr (.inr rfl)), np_gni, if_pos rfl]
    · rw [np_np e, np_gni, if_neg e, Int.add_zero]
  · rw [h3, sc_np, sc_gni]
  · have := h4 u; rwa [sc_np, sc_gni] at this
theorem addAll_is {f : W → List W} {B : Nat} : ∀ (ks : List W), ks.Nodup → (∀ k ∈ ks, (f k).length ≤ B) → ∀ g : List AN,
    (∀ y, y ∈ (ks.foldl (fun g l => addA g l (f l)) g).map (·.1) ↔ y ∈ g.map (·.1) ∨ ∃ k ∈ ks, y = k ∨ y ∈ f k) ∧ (∀ y, npOf (ks.foldl (fun g l => addA g l (f l)) g) y = npOf g y + if y ∈ ks then ((f y).length : Int) else 0) ∧
    (∀ u v, (scOf (ks.foldl (fun g l => addA g l (f l)) g) u).count v = (scOf g u).count v + if v ∈ ks then (f v).count u else 0) ∧ ∀ u, (scOf (ks.foldl (fun g l => addA g l (f l)) g) u).length ≤ (scOf g u).length + B * ks.length
  | [], _, _, g => ⟨by simp, by simp, by simp, fun _ => Nat.le_refl _⟩
  | k :: ks, nd, hB, g => by
    obtain ⟨hk, nd'⟩ := List.nodup_cons.mp nd
    obtain ⟨h1, h2, h3, h4⟩ := addAll_is ks nd' (fun k h => hB k (.tail _ h)) (addA g k (f k))
    obtain ⟨a1, a2, a3, a4⟩ := add_is (wd := k) (g := g) (ps := f k)
    refine ⟨fun y => ?_, fun y => ?_, fun u v => ?_, fun u => ?_⟩
    · rw [List.foldl_cons, h1, a1]
      simp [or_assoc]
    · rw [List.foldl_cons, h2, a2, Int.add_assoc]
      congr 1
      by_cases e : y = k
      · subst e; simp [hk]
      · simp [e]
    · rw [List.foldl_cons, h3, a3, Nat.add_assoc]
      congr 1
      by_cases e : v = k
      · subst e; simp [hk]
      · simp [e]
    · rw [List.foldl_cons]
      refine Nat.le_trans (h4 u) ?_
      have := a4 u
      have := hB k (.head _)
      rw [List.length_cons, Nat.mul_succ]
      (first | lia | omega)
end

section
open PySem PySem.W
/-- what the Kahn argument rests on: the words, what each needs, the depths -/
structure Dag (ks : List W) (f : W → List W) (dp : W → Nat) : Prop where
  nd : ks.Nodup
  len : ks.length ≤ 20
  fin : ∀ y ∈ ks, ∀ o ∈ f y, o ∈ ks
  fl : ∀ y ∈ ks, (f y).length ≤ 20
  lt : ∀ y ∈ ks, ∀ o ∈ f y, dp o < dp y
  pre : ∀ y ∈ ks, dp y ≠ 0 → ∃ o ∈ f y, dp o + 1 = dp y
/-- the graph's fixed part -/
structure Gr (ks : List W) (f : W → List W) (g : List AN) : Prop where
  nm : ∀ y, y ∈ g.map (·.1) ↔ y ∈ ks
  sc : ∀ u v, (scOf g u).count v = if v ∈ ks then (f v).count u else 0
  sl : ∀ u, (scOf g u).length ≤ 400
theorem Gr.np {ks : List W} {f : W → List W} {g : List AN} (G : Gr ks f g) {wd : W} {h : Int → Int} : Gr ks f (npA wd h g) :=
  ⟨fun y => by rw [np_fst]; exact G.nm y, fun u v => by rw [sc_np]; exact G.sc u v, fun u => by rw [sc_np]; exact G.sl u⟩
theorem Gr.in_sc {ks : List W} {f : W → List W} {g : List AN} (G : Gr ks f g) {u y : W} : y ∈ scOf g u ↔ y ∈ ks ∧ u ∈ f y := by
  rw [← List.count_pos_iff, G.sc]
  split
  · rename_i h; rw [List.count_pos_iff]; exact ⟨fun q => ⟨h, q⟩, fun q => q.2⟩
  · rename_i h; exact ⟨fun q => absurd q (Nat.lt_irrefl _), fun q => absurd q.1 h⟩
/-- the decrements that one node's end brings -/
theorem dec_fold {ks : List W} {f : W → List W} {K : W → Prop} (hK : ∀ y, K y → y ∈ ks) : ∀ (T : List W) (g : List AN) (rdy : List W) (c : W → Nat), Gr ks f g → (∀ y ∈ T, K y) → (∀ y, K y → npOf g y = c y) → (∀ y, K y → T.count y ≤ c y) → rdy.Nodup → (∀ y, y ∈ rdy ↔ K y ∧ c y = 0) →
    Gr ks f (T.foldl decA (g, rdy)).1 ∧ (∀ u, scOf (T.foldl decA (g, rdy)).1 u = scOf g u) ∧ (∀ y, K y → npOf (T.foldl decA (g, rdy)).1 y = (c y - T.count y : Nat)) ∧ (∀ y, y ∉ T → npOf (T.foldl decA (g, rdy)).1 y = npOf g y) ∧ (T.foldl decA (g, rdy)).2.Nodup ∧ ∀ y, y ∈ (T.foldl decA (g, rdy)).2 ↔ K y ∧ c y - T.count y = 0
  | [], g, rdy, c, G, _, hn, _, nd, hm => ⟨G, fun _ => rfl, fun y h => by simpa using hn y h, fun _ _ => rfl, nd, fun y => by simpa using hm y⟩
  | y :: T, g, rdy, c, G, hT, hn, hc, nd, hm => by
    have Ky := hT y (.head _)
    have c1 : 1 ≤ c y := by have := hc y Ky; rw [List.count_cons_self] at this; (first | lia | omega)
    have yn : y ∈ g.map (·.1) := (G.nm y).mpr (hK y Ky)
    have ynr : y ∉ rdy := fun q => by have := ((hm y).mp q).2; (first | lia | omega)
    have e1 : decA (g, rdy) y = (npA y (· - 1) g, if npOf g y - 1 = 0 then rdy ++ [y] else rdy) := rfl
    have hcond : npOf g y - 1 = 0 ↔ c y = 1 := by rw [hn y Ky]; (first | lia | omega)
    obtain ⟨a1, a2, a3, a4, a5, a6⟩ := dec_fold hK T (npA y (· - 1) g) (if npOf g y - 1 = 0 then rdy ++ [y] else rdy) (fun z => if z = y then c y - 1 else c z) G.np (fun z hz => hT z (.tail _ hz))
      (fun z Kz => by
        by_cases e : z = y
        · subst e; rw [np_np_self yn, hn z Kz, if_pos rfl]; (first | lia | omega)
        · rw [np_np e, hn z Kz, if_neg e])
      (fun z Kz => by
        have := hc z Kz
        by_cases e : z = y
        · subst e; rw [List.count_cons_self] at this; rw [if_pos rfl]; (first | lia | omega)
        · rw [List.count_cons_of_ne (Ne.symm e)] at this; rwa [if_neg e])
      (by
        split
        · exact List.nodup_append.mpr ⟨nd, by simp, fun a ha b hb => by rw [List.mem_singleton.mp hb]; exact fun q => ynr (q ▸ ha)⟩
        · exact nd)
      (fun z => by
        by_cases e : z = y
        · subst e
          rw [if_pos rfl]
          split
          · rename_i q; have := hcond.mp q; simp [Ky, this]
          · rename_i q; have : c z ≠ 1 := fun q' => q (hcond.mpr q'); exact ⟨fun q' => absurd q' ynr, fun q' => by (first | lia | omega)⟩
        · rw [if_neg e]
          split
          · simp [e, hm]
          · exact hm z)
    rw [List.foldl_cons, e1]
    have key : ∀ z, K z → (if z = y then c y - 1 else c z) - T.count z = c z - (y :: T).count z := fun z Kz => by
      by_cases e : z = y
      · subst e; rw [if_pos rfl, List.count_cons_self]; (first | lia | omega)
      · rw [if_neg e, List.count_cons_of_ne (Ne.symm e)]
    refine ⟨a1, fun u => (a2 u).trans sc_np, fun z Kz => ?_, fun z hz => ?_, a5, fun z => ?_⟩
    · rw [a3 z Kz, key z Kz]
    · have hzy : z ≠ y := fun q => hz (by rw [q]; exact .head _)
      rw [a4 z (fun q => hz (.tail _ q)), np_np hzy]
    · rw [a6]
      exact ⟨fun q => ⟨q.1, by rw [← key z q.1]; exact q.2⟩, fun q => ⟨q.1, by rw [key z q.1]; exact q.2⟩⟩
theorem len_in {n : W} {Q : List W} (h : n ∉ Q) : ∀ l : List W, (l.filter (fun o => decide (o ∈ n :: Q))).length = l.count n + (l.filter fun o => decide (o ∈ Q)).length
  | [] => rfl
  | a :: l => by
    have ih := len_in h l
    by_cases e : a = n
    · subst e
      rw [List.filter_cons_of_pos (by simp), List.filter_cons_of_neg (by simpa using h), List.count_cons_self, List.length_cons, ih]; (first | lia | omega)
    · rw [List.count_cons_of_ne e]
      by_cases q : a ∈ Q
      · rw [List.filter_cons_of_pos (by simp [q]), List.filter_cons_of_pos (by simp [q]), List.length_cons, List.length_cons, ih]; (first | lia | omega)
      · rw [List.filter_cons_of_neg (by simp [q, e]), List.filter_cons_of_neg (by simp [q]), ih]
/-- the nodes of one round, done one by one -/
theorem done_fold {ks : List W} {f : W → List W} {dp : W → Nat} {k : Nat} (D : Dag ks f dp) : ∀ (Q : List W) (st : ST) (b : W → Nat), Q.Nodup → Gr ks f st.1 → (∀ n ∈ Q, n ∈ ks ∧ dp n = k ∧ npOf st.1 n = -1) →
    (∀ y, y ∈ ks → k < dp y → npOf st.1 y = (b y + ((f y).filter fun o => decide (o ∈ Q)).length : Nat)) → st.2.Nodup → (∀ y, y ∈ st.2 ↔ (y ∈ ks ∧ k < dp y) ∧ b y + ((f y).filter fun o => decide (o ∈ Q)).length = 0) →
    OkD st Q ∧ Gr ks f (Q.foldl doneA st).1 ∧ (∀ y, y ∈ ks → k < dp y → npOf (Q.foldl doneA st).1 y = b y) ∧ (Q.foldl doneA st).2.Nodup ∧ ∀ y, y ∈ (Q.foldl doneA st).2 ↔ (y ∈ ks ∧ k < dp y) ∧ b y = 0
  | [], st, b, _, G, _, hn, nd, hm => by
    have e0 : ∀ l : List W, (l.filter fun o => decide (o ∈ ([] : List W))).length = 0 := fun l => by rw [List.length_eq_zero_iff, List.filter_eq_nil_iff]; simp
    exact ⟨trivial, G, fun y h1 h2 => by rw [List.foldl_nil, hn y h1 h2, e0, Nat.add_zero], nd, fun y => by rw [List.foldl_nil, hm y, e0, Nat.add_zero]⟩
  | n :: Q, st, b, ndQ, G, hQ, hn, nd, hm => by
    obtain ⟨nQ, ndQ'⟩ := List.nodup_cons.mp ndQ
    obtain ⟨nk, nd0, nnp⟩ := hQ n (.head _)
    have tgt : ∀ y ∈ scOf st.1 n, y ∈ ks ∧ k < dp y := fun y hy => by
      obtain ⟨q1, q2⟩ := G.in_sc.mp hy
      have := D.lt y q1 n q2
      exact ⟨q1, by (first | lia | omega)⟩
    obtain ⟨a1, a2, a3, a4, a5, a6⟩ := dec_fold (K := fun y => y ∈ ks ∧ k < dp y) (fun y h => h.1) (scOf st.1 n) (npA n (fun _ => -2) st.1) st.2 (fun y => b y + ((f y).filter fun o => decide (o ∈ n :: Q)).length) G.np tgt
      (fun y h => by rw [np_np (fun q => by have := h.2; rw [q] at this; (first | lia | omega))]; exact hn y h.1 h.2)
      (fun y h => by rw [G.sc, if_pos h.1, len_in nQ]; (first | lia | omega)) nd hm
    have e1 : doneA st n = (scOf st.1 n).foldl decA (npA n (fun _ => -2) st.1, st.2) := rfl
    have key : ∀ y, y ∈ ks → b y + ((f y).filter fun o => decide (o ∈ n :: Q)).length - (scOf st.1 n).count y = b y + ((f y).filter fun o => decide (o ∈ Q)).length := fun y h => by
      rw [G.sc, if_pos h, len_in nQ]; (first | lia | omega)
    rw [← e1] at a1 a3 a4 a5 a6
    obtain ⟨r1, r2, r3, r4, r5⟩ := done_fold D Q (doneA st n) b ndQ' a1 (fun n' h => by
        obtain ⟨q1, q2, q3⟩ := hQ n' (.tail _ h)
        refine ⟨q1, q2, ?_⟩
        have hne : n' ≠ n := fun q => nQ (by rw [← q]; exact h)
        rw [a4 n' (fun q => by have := (tgt n' q).2; (first | lia | omega)), np_np hne, q3])
      (fun y h1 h2 => by rw [a3 y ⟨h1, h2⟩, key y h1]) a5 (fun y => by
        rw [a6]
        exact ⟨fun q => ⟨q.1, by rw [← key y q.1.1]; exact q.2⟩, fun q => ⟨q.1, by rw [key y q.1.1]; exact q.2⟩⟩)
    refine ⟨⟨(G.nm n).mpr nk, nnp, fun y hy => (G.nm y).mpr (tgt y hy).1, ?_, r1⟩, r2, r3, r4, r5⟩
    have h1 := nd.length_le_of_subset (l₂ := ks) fun y hy => ((hm y).mp hy).1.1
    have h2 := G.sl n
    have h3 := D.len
    (first | lia | omega)
/-- the state at round k -/
structure Rd (ks : List W) (f : W → List W) (dp : W → Nat) (k : Nat) (st : ST) : Prop where
  gr : Gr ks f st.1
  nd : st.2.Nodup
  mem : ∀ y, y ∈ st.2 ↔ y ∈ ks ∧ dp y = k
  np : ∀ y ∈ ks, k < dp y → npOf st.1 y = (((f y).filter fun o => decide (k ≤ dp o)).length : Nat)
theorem out_is {ks : List W} {f : W → List W} : ∀ (ws : List W) (g : List AN), Gr ks f g → (∀ y ∈ ws, y ∈ ks) → Gr ks f (outA g ws) ∧ (∀ y, y ∈ ws → npOf (outA g ws) y = -1) ∧ ∀ y, y ∉ ws → npOf (outA g ws) y = npOf g y
  | [], g, G, _ => ⟨G, fun _ h => (nomatch h), fun _ _ => rfl⟩
  | a :: ws, g, G, h => by
    obtain ⟨h1, h2, h3⟩ := out_is ws (npA a (fun _ => -1) g) G.np fun y q => h y (.tail _ q)
    refine ⟨h1, fun y hy => ?_, fun y hy => ?_⟩
    · by_cases q : y ∈ ws
      · exact h2 y q
      · rcases List.mem_cons.mp hy with rfl | hy
        · exact (h3 y q).trans (np_np_self ((G.nm y).mpr (h y (.head _))))
        · exact absurd hy q
    · exact (h3 y (fun q => hy (.tail _ q))).trans (np_np fun q => hy (q ▸ .head _))
theorem len_split {P Q R : W → Bool} : ∀ l : List W, (∀ o ∈ l, P o = (Q o || R o) ∧ ¬ (Q o = true ∧ R o = true)) → (l.filter P).length = (l.filter Q).length + (l.filter R).length
  | [], _ => rfl
  | a :: l, h => by
    have ih := len_split l fun o q => h o (.tail _ q)
    obtain ⟨h1, h2⟩ := h a (.head _)
    rw [List.filter_cons, List.filter_cons, List.filter_cons, h1]
    cases hq : Q a <;> cases hr : R a <;> simp [hq, hr] at h2 ⊢ <;> (first | lia | omega)
theorem Rd.step {ks : List W} {f : W → List W} {dp : W → Nat} {k : Nat} {st : ST} (D : Dag ks f dp) (S : Rd ks f dp k st) : OkD (outA st.1 st.2, []) st.2 ∧ Rd ks f dp (k + 1) (nextR st) := by
  obtain ⟨o1, o2, o3⟩ := out_is st.2 st.1 S.gr fun y h => ((S.mem y).mp h).1
  have spl : ∀ y ∈ ks, ((f y).filter fun o => decide (k ≤ dp o)).length = ((f y).filter fun o => decide (k + 1 ≤ dp o)).length + ((f y).filter fun o => decide (o ∈ st.2)).length := fun y hy =>
    len_split (f y) fun o ho => by
      have hk := D.fin y hy o ho
      have : (o ∈ st.2) ↔ dp o = k := ⟨fun q => ((S.mem o).mp q).2, fun q => (S.mem o).mpr ⟨hk, q⟩⟩
      rw [Bool.eq_iff_iff]
      simp only [this, decide_eq_true_iff, Bool.or_eq_true]
      (first | lia | omega)
  obtain ⟨r1, r2, r3, r4, r5⟩ := done_fold (k := k) D st.2 (outA st.1 st.2, []) (fun y => ((f y).filter fun o => decide (k + 1 ≤ dp o)).length) S.nd o1
    (fun n h => ⟨((S.mem n).mp h).1, ((S.mem n).mp h).2, o2 n h⟩)
    (fun y h1 h2 => by
      show npOf (outA st.1 st.2) y = _
      rw [o3 y (fun q => by have := ((S.mem y).mp q).2; (first | lia | omega)), S.np y h1 h2, spl y h1]) List.nodup_nil
    (fun y => by
      refine ⟨fun q => (nomatch q), fun q => ?_⟩
      obtain ⟨⟨h1, h2⟩, h3⟩ := q
      obtain ⟨o, ho, e⟩ := D.pre y h1 (by (first | lia | omega))
      rw [← spl y h1] at h3
      have hz := List.length_eq_zero_iff.mp h3
      have hm : o ∈ (f y).filter fun o => decide (k ≤ dp o) := List.mem_filter.mpr ⟨ho, decide_eq_true (by (first | lia | omega))⟩
      rw [hz] at hm
      exact nomatch hm)
  refine ⟨r1, r2, r4, fun y => ?_, fun y h1 h2 => r3 y h1 (by (first | lia | omega))⟩
  have : nextR st = st.2.foldl doneA (outA st.1 st.2, []) := rfl
  rw [this, r5]
  constructor
  · rintro ⟨⟨h1, h2⟩, h3⟩
    refine ⟨h1, ?_⟩
    obtain ⟨o, ho, e⟩ := D.pre y h1 (by (first | lia | omega))
    have h4 := List.length_eq_zero_iff.mp h3
    rw [List.filter_eq_nil_iff] at h4
    have := h4 o ho
    simp at this
    (first | lia | omega)
  · rintro ⟨h1, h2⟩
    refine ⟨⟨h1, by (first | lia | omega)⟩, ?_⟩
    rw [List.length_eq_zero_iff, List.filter_eq_nil_iff]
    intro o ho
    have := D.lt y h1 o ho
    simp
    (first | lia | omega)
theorem srt_layer {ks l : List W} {dp : W → Nat} {k : Nat} (nk : ks.Nodup) (nl : l.Nodup) (h : ∀ y, y ∈ l ↔ y ∈ ks ∧ dp y = k) : srt l = (srt ks).filter fun y => decide (dp y = k) := by
  refine (srt_is ?_ ((srt_ord ks).filter _)).symm
  have hp := srt_perm ks
  refine (List.perm_ext_iff_of_nodup ((hp.nodup_iff.mpr nk).filter _) nl).mpr fun a => ?_
  rw [h, List.mem_filter, hp.mem_iff, decide_eq_true_iff]
/-- all rounds -/
theorem rounds_all {ks : List W} {f : W → List W} {dp : W → Nat} {M : Nat} (D : Dag ks f dp) (hM : ∀ y ∈ ks, dp y ≤ M) (hd : ∀ d, d ≤ M → ∃ y ∈ ks, dp y = d) : ∀ (j k : Nat) (st : ST), k + j = M + 1 → Rd ks f dp k st →
    OkR j st ∧ (roundsA j st).map srt = (List.range' k j).map fun d => (srt ks).filter fun y => decide (dp y = d)
  | 0, k, st, e, S => by
    refine ⟨?_, rfl⟩
    refine List.eq_nil_iff_forall_not_mem.mpr fun y hy => ?_
    obtain ⟨h1, h2⟩ := (S.mem y).mp hy
    have := hM y h1
    (first | lia | omega)
  | j + 1, k, st, e, S => by
    obtain ⟨y, hy, ey⟩ := hd k (by (first | lia | omega))
    have hne : st.2 ≠ [] := fun q => by have := (S.mem y).mpr ⟨hy, ey⟩; rw [q] at this; exact nomatch this
    obtain ⟨o, S'⟩ := S.step D
    obtain ⟨r1, r2⟩ := rounds_all D hM hd j (k + 1) (nextR st) (by (first | lia | omega)) S'
    have hl := S.nd.length_le_of_subset (l₂ := ks) fun y h => ((S.mem y).mp h).1
    have := D.len
    refine ⟨.inr ⟨fun y h => (S.gr.nm y).mpr ((S.mem y).mp h).1, by (first | lia | omega), o, r1⟩, ?_⟩
    show ((if st.2 = [] then [] else st.2 :: roundsA j (nextR st)) : List (List W)).map srt = _
    rw [if_neg hne, List.map_cons, r2, List.range'_succ, List.map_cons, srt_layer D.nd S.nd S.mem]
end

section
open PySem PySem.W
theorem of_mem {g : List AN} {p : AN} (h : WN g) (hp : p ∈ g) : npOf g p.1 = p.2.1 ∧ scOf g p.1 = p.2.2 := by
  obtain ⟨l, r, rfl⟩ := List.append_of_mem hp
  unfold npOf scOf
  rw [find_at h]
  exact ⟨rfl, rfl⟩
theorem Dag.start {ks : List W} {f : W → List W} {dp : W → Nat} (D : Dag ks f dp) : Rd ks f dp 0 (addAll ks f, rdy0 (addAll ks f)) := by
  obtain ⟨h1, h2, h3, h4⟩ := addAll_is (f := f) ks D.nd D.fl []
  have wn : WN (addAll ks f) := wn_addAll f ks [] List.nodup_nil
  have np : ∀ y ∈ ks, npOf (addAll ks f) y = (f y).length := fun y hy => by
    have := h2 y
    rw [if_pos hy] at this
    exact this.trans (Int.zero_add _)
  have G : Gr ks f (addAll ks f) := by
    refine ⟨fun y => (h1 y).trans ⟨fun q => ?_, fun q => .inr ⟨y, q, .inl rfl⟩⟩, fun u v => (h3 u v).trans (Nat.zero_add _), fun u => ?_⟩
    · rcases q with q | ⟨k, hk, rfl | q⟩
      · exact nomatch q
      · exact hk
      · exact D.fin k hk y q
    · refine Nat.le_trans (h4 u) ?_
      have := D.len
      show 0 + 20 * ks.length ≤ 400
      (first | lia | omega)
  refine ⟨G, wn.sublist ((List.filter_sublist (l := addAll ks f)).map _), fun y => ?_, fun y hy h0 => ?_⟩
  · show y ∈ ((addAll ks f).filter fun p => decide (p.2.1 = 0)).map (·.1) ↔ _
    constructor
    · intro h
      obtain ⟨p, hp, rfl⟩ := List.mem_map.mp h
      obtain ⟨hp, hz⟩ := List.mem_filter.mp hp
      have hz := of_decide_eq_true hz
      have hk := (G.nm p.1).mp (List.mem_map_of_mem hp)
      have e := np p.1 hk
      rw [(of_mem wn hp).1, hz] at e
      refine ⟨hk, Decidable.byContradiction fun q => ?_⟩
      obtain ⟨o, ho, _⟩ := D.pre p.1 hk q
      have := List.length_pos_of_mem ho
      (first | lia | omega)
    · rintro ⟨hk, hz⟩
      obtain ⟨p, hp, rfl⟩ := List.mem_map.mp ((G.nm y).mpr hk)
      refine List.mem_map.mpr ⟨p, List.mem_filter.mpr ⟨hp, decide_eq_true ?_⟩, rfl⟩
      rw [← (of_mem wn hp).1, np p.1 hk]
      have : f p.1 = [] := List.eq_nil_iff_forall_not_mem.mpr fun o ho => by
        have := D.lt p.1 hk o ho
        (first | lia | omega)
      rw [this]
      rfl
  · refine (np y hy).trans ?_
    rw [List.filter_eq_self.mpr fun o _ => decide_eq_true (Nat.zero_le _)]
theorem Dag.rnd {ks : List W} {f : W → List W} {dp : W → Nat} {M : Nat} (D : Dag ks f dp) (hM : ∀ y ∈ ks, dp y ≤ M) (hd : ∀ d, d ≤ M → ∃ y ∈ ks, dp y = d) (hl : ∀ y ∈ ks, ∀ o ∈ f y, o.length < y.length) (h9 : M + 1 ≤ 900) :
    RndOk ks f (M + 1) ∧ (roundsA (M + 1) (addAll ks f, rdy0 (addAll ks f))).map srt = (List.range (M + 1)).map fun d => (srt ks).filter fun y => decide (dp y = d) := by
  obtain ⟨a, b⟩ := rounds_all D hM hd (M + 1) 0 _ (Nat.zero_add _) D.start
  have wn : WN (addAll ks f) := wn_addAll f ks [] List.nodup_nil
  refine ⟨⟨D.len, D.fl, fun p hp y hy => ?_, h9, a⟩, by rw [b, List.range_eq_range']⟩
  rw [← (of_mem wn hp).2] at hy
  obtain ⟨q1, q2⟩ := D.start.gr.in_sc.mp hy
  exact ⟨(D.start.gr.nm y).mpr q1, hl y q1 _ q2⟩
/-- the layers -/
theorem lay_all {ws : List W} {f : W → List W} {dp : W → Nat} (h1 : ∀ y ∈ ws, ∀ o ∈ f y, o ∈ ws ∧ dp o < dp y) (h2 : ∀ y ∈ ws, dp y ≠ 0 → ∃ o ∈ f y, dp o + 1 = dp y) : ∀ (n k : Nat) (p l : List W), l = ws.filter (fun y => decide (k ≤ dp y)) → (∀ y, y ∈ p ↔ y ∈ ws ∧ dp y < k) →
    layA f n p l = (List.range' k n).map fun d => ws.filter fun y => decide (dp y = d)
  | 0, _, _, _, _, _ => rfl
  | n + 1, k, p, l, el, hp => by
    have hs : stayA f p l = ws.filter fun y => decide (k + 1 ≤ dp y) := by
      unfold stayA
      rw [el, List.filter_filter]
      refine List.filter_congr fun y hy => ?_
      rw [Bool.eq_iff_iff, Bool.and_eq_true, decide_eq_true_iff, decide_eq_true_iff, decide_eq_true_iff]
      constructor
      · rintro ⟨q1, q2⟩
        refine Decidable.byContradiction fun q => q1 (List.filter_eq_nil_iff.mpr fun o ho => ?_)
        obtain ⟨o1, o2⟩ := h1 y hy o ho
        have := (hp o).mpr ⟨o1, by (first | lia | omega)⟩
        simp [this]
      · intro q
        refine ⟨fun e => ?_, by (first | lia | omega)⟩
        obtain ⟨o, ho, e2⟩ := h2 y hy (by (first | lia | omega))
        have := List.filter_eq_nil_iff.mp e o ho
        have hop : o ∈ p := by simpa using this
        have := ((hp o).mp hop).2
        (first | lia | omega)
    have hl : l.filter (fun y => !decide (y ∈ stayA f p l)) = ws.filter fun y => decide (dp y = k) := by
      rw [hs, el, List.filter_filter]
      refine List.filter_congr fun y hy => ?_
      rw [Bool.eq_iff_iff, Bool.and_eq_true, Bool.not_eq_true', decide_eq_false_iff_not, decide_eq_true_iff, decide_eq_true_iff, List.mem_filter, decide_eq_true_iff]
      constructor
      · rintro ⟨q1, q2⟩
        have : ¬ (k + 1 ≤ dp y) := fun q => q1 ⟨hy, q⟩
        (first | lia | omega)
      · intro q
        exact ⟨fun q' => by have := q'.2; (first | lia | omega), by (first | lia | omega)⟩
    show l.filter (fun y => !decide (y ∈ stayA f p l)) :: layA f n (p ++ l.filter (fun y => !decide (y ∈ stayA f p l))) (stayA f p l) = _
    rw [hl, lay_all h1 h2 n (k + 1) _ _ hs (fun y => by
      rw [List.mem_append, hp, List.mem_filter, decide_eq_true_iff]
      constructor
      · rintro (⟨a, b⟩ | ⟨a, b⟩)
        · exact ⟨a, by (first | lia | omega)⟩
        · exact ⟨a, by (first | lia | omega)⟩
      · rintro ⟨a, b⟩
        by_cases q : dp y = k
        · exact .inr ⟨a, q⟩
        · exact .inl ⟨a, by (first | lia | omega)⟩), List.range'_succ, List.map_cons]
theorem lay_due {ws : List W} {f : W → List W} {dp : W → Nat} {M : Nat} (h1 : ∀ y ∈ ws, ∀ o ∈ f y, o ∈ ws ∧ dp o < dp y) (h2 : ∀ y ∈ ws, dp y ≠ 0 → ∃ o ∈ f y, dp o + 1 = dp y) (hM : ∀ y ∈ ws, dp y ≤ M) (hd : ∀ d, d ≤ M → ∃ y ∈ ws, dp y = d) (hn : M + 1 ≤ ws.length) :
    (layA f ws.length [] ws).filter (fun l => decide (l ≠ [])) = (List.range (M + 1)).map fun d => ws.filter fun y => decide (dp y = d) := by
  obtain ⟨n, en⟩ : ∃ n, ws.length = M + 1 + n := ⟨ws.length - (M + 1), by (first | lia | omega)⟩
  rw [lay_all h1 h2 ws.length 0 [] ws (List.filter_eq_self.mpr fun o _ => decide_eq_true (Nat.zero_le _)).symm (fun y => ⟨fun q => (nomatch q), fun q => absurd q.2 (Nat.not_lt_zero _)⟩)]
  rw [en, ← List.range'_append (step := 1), List.map_append, List.filter_append, List.range_eq_range']
  have e1 : ((List.range' 0 (M + 1)).map fun d => ws.filter fun y => decide (dp y = d)).filter (fun l => decide (l ≠ [])) = (List.range' 0 (M + 1)).map fun d => ws.filter fun y => decide (dp y = d) := by
    refine List.filter_eq_self.mpr fun l hl => ?_
    obtain ⟨d, hd', rfl⟩ := List.mem_map.mp hl
    rw [List.mem_range'_1] at hd'
    obtain ⟨y, hy, e⟩ := hd d (by (first | lia | omega))
    refine decide_eq_true fun q => ?_
    have := List.filter_eq_nil_iff.mp q y hy
    simp [e] at this
  have e2 : ((List.range' (0 + 1 * (M + 1)) n).map fun d => ws.filter fun y => decide (dp y = d)).filter (fun l => decide (l ≠ [])) = [] := by
    refine List.filter_eq_nil_iff.mpr fun l hl => ?_
    obtain ⟨d, hd', rfl⟩ := List.mem_map.mp hl
    rw [List.mem_range'_1] at hd'
    have : (ws.filter fun y => decide (dp y = d)) = [] := List.filter_eq_nil_iff.mpr fun y hy => by
      have := hM y hy
      simp
      (first | lia | omega)
    simp [this]
  rw [e1, e2, List.append_nil]
end

section
open PySem PySem.W
theorem dd_go : ∀ (ws acc : List W), (∀ y, y ∈ ws.foldl (fun acc l => if l ∈ acc then acc else acc ++ [l]) acc ↔ y ∈ acc ∨ y ∈ ws) ∧ (acc.Nodup → (ws.foldl (fun acc l => if l ∈ acc then acc else acc ++ [l]) acc).Nodup)
  | [], acc => ⟨by simp, id⟩
  | w :: ws, acc => by
    obtain ⟨a, b⟩ := dd_go ws (if w ∈ acc then acc else acc ++ [w])
    refine ⟨fun y => ?_, fun nd => b ?_⟩
    · rw [List.foldl_cons, a]
      split
      · rename_i h
        constructor
        · rintro (q | q)
          · exact .inl q
          · exact .inr (.tail _ q)
        · rintro (q | q)
          · exact .inl q
          · rcases List.mem_cons.mp q with rfl | q
            · exact .inl h
            · exact .inr q
      · simp [or_assoc]
    · split
      · exact nd
      · rename_i h
        exact List.nodup_append.mpr ⟨nd, by simp, fun x hx z hz => by rw [List.mem_singleton.mp hz]; exact fun q => h (q ▸ hx)⟩
theorem mem_dd {ws : List W} {y : W} : y ∈ dd ws ↔ y ∈ ws := by
  rw [show dd ws = ws.foldl (fun acc l => if l ∈ acc then acc else acc ++ [l]) [] from rfl, (dd_go ws []).1]
  simp
theorem nodup_dd (ws : List W) : (dd ws).Nodup := (dd_go ws []).2 List.nodup_nil
/-- the depths -/
theorem dep_le {ws : List W} {kd : Int} : ∀ (n : Nat) (w : W), dep ws kd n w ≤ n
  | 0, _ => Nat.le_refl _
  | n + 1, w => by
    show ((ws.filter (rel kd w)).map fun o => dep ws kd n o + 1).foldl max 0 ≤ n + 1
    rcases (foldl_max ((ws.filter (rel kd w)).map fun o => dep ws kd n o + 1) 0).2.2 with q | q
    · rw [q]; exact Nat.zero_le _
    · obtain ⟨o, _, e⟩ := List.mem_map.mp q
      rw [← e]
      exact Nat.succ_le_succ (dep_le n o)
theorem dep_st {ws : List W} {kd : Int} (hr : ∀ wd ∈ ws, ∀ o ∈ ws, rel kd wd o = true → o.length < wd.length) : ∀ (n m : Nat) (w : W), w ∈ ws → w.length ≤ n → w.length ≤ m → dep ws kd n w = dep ws kd m w
  | n, m, w, hw, hn, hm => by
    have nil : w.length = 0 → ws.filter (rel kd w) = [] := fun z => List.filter_eq_nil_iff.mpr fun o ho q => by have := hr w hw o ho q; (first | lia | omega)
    cases n with
    | zero =>
      cases m with
      | zero => rfl
      | succ m => show 0 = ((ws.filter (rel kd w)).map _).foldl max 0; rw [nil (by (first | lia | omega))]; rfl
    | succ n =>
      cases m with
      | zero => show ((ws.filter (rel kd w)).map _).foldl max 0 = 0; rw [nil (by (first | lia | omega))]; rfl
      | succ m =>
        show ((ws.filter (rel kd w)).map fun o => dep ws kd n o + 1).foldl max 0 = ((ws.filter (rel kd w)).map fun o => dep ws kd m o + 1).foldl max 0
        congr 1
        refine List.map_congr_left fun o ho => ?_
        obtain ⟨h1, h2⟩ := List.mem_filter.mp ho
        have := hr w hw o h1 h2
        rw [dep_st hr n m o h1 (by (first | lia | omega)) (by (first | lia | omega))]
theorem dep_facts {ws : List W} {kd : Int} (hr : ∀ wd ∈ ws, ∀ o ∈ ws, rel kd wd o = true → o.length < wd.length) (h3 : ∀ w ∈ ws, w.length ≤ 3) {y : W} (hy : y ∈ ws) :
    (∀ o ∈ ws.filter (rel kd y), o ∈ ws ∧ dep ws kd 4 o < dep ws kd 4 y) ∧ (dep ws kd 4 y ≠ 0 → ∃ o ∈ ws.filter (rel kd y), dep ws kd 4 o + 1 = dep ws kd 4 y) := by
  have e : dep ws kd 4 y = ((ws.filter (rel kd y)).map fun o => dep ws kd 4 o + 1).foldl max 0 := by
    show ((ws.filter (rel kd y)).map fun o => dep ws kd 3 o + 1).foldl max 0 = _
    congr 1
    refine List.map_congr_left fun o ho => ?_
    have h1 := (List.mem_filter.mp ho).1
    rw [dep_st hr 3 4 o h1 (h3 o h1) (by have := h3 o h1; (first | lia | omega))]
  have F := foldl_max ((ws.filter (rel kd y)).map fun o => dep ws kd 4 o + 1) 0
  rw [← e] at F
  refine ⟨fun o ho => ⟨(List.mem_filter.mp ho).1, F.1 _ (List.mem_map_of_mem (f := fun o => dep ws kd 4 o + 1) ho)⟩, fun hne => ?_⟩
  rcases F.2.2 with q | q
  · exact absurd q hne
  · obtain ⟨o, ho, eo⟩ := List.mem_map.mp q
    exact ⟨o, ho, eo⟩
theorem all_depths {ws : List W} {dp : W → Nat} {M : Nat} (h2 : ∀ y ∈ ws, dp y ≠ 0 → ∃ o ∈ ws, dp o + 1 = dp y) (hM : ∃ y ∈ ws, dp y = M) : ∀ j, j ≤ M → ∃ y ∈ ws, dp y = M - j
  | 0, _ => hM
  | j + 1, h => by
    obtain ⟨y, hy, e⟩ := all_depths h2 hM j (by (first | lia | omega))
    obtain ⟨o, ho, e2⟩ := h2 y hy (by (first | lia | omega))
    exact ⟨o, ho, by (first | lia | omega)⟩
/-- the words that can stand in a script -/
def lets : List Nat := [97, 42, 91]
def W39 : List W := (lets.map fun a => [a]) ++ (lets.flatMap fun a => lets.map fun b => [a, b]) ++ lets.flatMap fun a => lets.flatMap fun b => lets.map fun c => [a, b, c]
/-- what is asked of two words -/
def fact (kd : Int) (w o : W) : Bool := ((!decide (o ∈ [w]) && fitsOf (optsOf o kd) w) == rel kd w o) && (!rel kd w o || decide (o.length < w.length))
theorem facts0 : (W39.all fun w => W39.all fun o => fact 0 w o) = true := by decide +kernel
theorem facts1 : (W39.all fun w => W39.all fun o => fact 1 w o) = true := by decide +kernel
theorem facts2 : (W39.all fun w => W39.all fun o => fact 2 w o) = true := by decide +kernel
theorem facts39 {kd : Int} (h : kd = 0 ∨ kd = 1 ∨ kd = 2) : (W39.all fun w => W39.all fun o => fact kd w o) = true := by
  rcases h with rfl | rfl | rfl
  · exact facts0
  · exact facts1
  · exact facts2
theorem shape39 : (W39.all fun w => decide (w ≠ []) && decide (w.length ≤ 3) && w.all fun c => decide (c = 97 ∨ c = 42 ∨ c = 91)) = true := by decide +kernel
theorem sig_in (i : Int) : sig i ∈ lets := by
  unfold sig
  split
  · exact .head _
  · split
    · exact .tail _ (.head _)
    · exact .tail _ (.tail _ (.head _))
theorem word39 (x : Int) : wordOf x ∈ W39 := by
  have key : ∀ g : Nat → Nat, (∀ k, g k ∈ lets) → ∀ n, n = 0 ∨ n = 1 ∨ n = 2 → (List.range (1 + n)).map g ∈ W39 := by
    intro g h n hn
    unfold W39
    rw [List.mem_append, List.mem_append]
    rcases hn with rfl | rfl | rfl
    · exact .inl (.inl (List.mem_map.mpr ⟨g 0, h 0, rfl⟩))
    · exact .inl (.inr (List.mem_flatMap.mpr ⟨g 0, h 0, List.mem_map.mpr ⟨g 1, h 1, rfl⟩⟩))
    · exact .inr (List.mem_flatMap.mpr ⟨g 0, h 0, List.mem_flatMap.mpr ⟨g 1, h 1, List.mem_map.mpr ⟨g 2, h 2, rfl⟩⟩⟩)
  have h0 : 0 ≤ x.emod 3 := Int.emod_nonneg x (b := 3) (by decide)
  have h3 : x.emod 3 < 3 := Int.emod_lt_of_pos x (b := 3) (by decide)
  exact key _ (fun k => sig_in _) _ (by (first | lia | omega))
theorem plain_law : PlainLaw := by
  intro ns hlen
  have hw : ∀ w ∈ wordsOf ns, w ∈ W39 := fun w h => by
    obtain ⟨x, _, rfl⟩ := List.mem_map.mp h
    exact word39 x
  have hl : (wordsOf ns).length = 6 + min 3 ns.length := by
    unfold wordsOf
    rw [List.length_map, List.length_append, List.length_take]
    rfl
  generalize wordsOf ns = ws at *
  have sh : ∀ w ∈ ws, (w ≠ [] ∧ w.length ≤ 3) ∧ ∀ c ∈ w, c = 97 ∨ c = 42 ∨ c = 91 := fun w h => by
    have := List.all_eq_true.mp shape39 w (hw w h)
    rw [Bool.and_eq_true, Bool.and_eq_true, decide_eq_true_iff, decide_eq_true_iff] at this
    exact ⟨this.1, fun c hc => of_decide_eq_true (List.all_eq_true.mp this.2 c hc)⟩
  refine ⟨⟨by (first | lia | omega), fun w h => ⟨(sh w h).1.1, (sh w h).1.2, (sh w h).2⟩⟩, fun kd k0 k3 => ?_⟩
  have fa : ∀ w ∈ ws, ∀ o ∈ ws, (!decide (o ∈ [w]) && fitsOf (optsOf o kd) w) = rel kd w o ∧ (rel kd w o = true → o.length < w.length) := fun w h o h' => by
    have hk : kd = 0 ∨ kd = 1 ∨ kd = 2 := by (first | lia | omega)
    have := List.all_eq_true.mp (List.all_eq_true.mp (facts39 hk) w (hw w h)) o (hw o h')
    unfold fact at this
    rw [Bool.and_eq_true, beq_iff_eq, Bool.or_eq_true, decide_eq_true_iff] at this
    refine ⟨this.1, fun q => this.2.resolve_left fun q' => ?_⟩
    rw [q] at q'
    exact nomatch q'
  have hr : ∀ wd ∈ ws, ∀ o ∈ ws, rel kd wd o = true → o.length < wd.length := fun w h o h' => (fa w h o h').2
  have en : ∀ w ∈ ws, nd ws kd w = ws.filter (rel kd w) := fun w h => by
    unfold nd
    rw [List.filter_filter]
    exact List.filter_congr fun o h' => (fa w h o h').1
  have df : ∀ y ∈ ws, (∀ o ∈ nd ws kd y, o ∈ ws ∧ dep ws kd 4 o < dep ws kd 4 y) ∧ (dep ws kd 4 y ≠ 0 → ∃ o ∈ nd ws kd y, dep ws kd 4 o + 1 = dep ws kd 4 y) := fun y hy => by
    rw [en y hy]
    exact dep_facts hr (fun w h => (sh w h).1.2) hy
  have fl : ∀ y ∈ ws, (nd ws kd y).length ≤ 20 := fun y hy => by
    rw [en y hy]
    have := List.length_filter_le (rel kd y) ws
    (first | lia | omega)
  have D : Dag (dd ws) (nd ws kd) (dep ws kd 4) := by
    refine ⟨nodup_dd ws, ?_, fun y hy o ho => mem_dd.mpr ((df y (mem_dd.mp hy)).1 o ho).1, fun y hy => fl y (mem_dd.mp hy), fun y hy o ho => ((df y (mem_dd.mp hy)).1 o ho).2, fun y hy => (df y (mem_dd.mp hy)).2⟩
    have := (nodup_dd ws).length_le_of_subset fun y hy => mem_dd.mp hy
    (first | lia | omega)
  have F := foldl_max (ws.map (dep ws kd 4)) 0
  obtain ⟨M, eM⟩ : ∃ M, (ws.map (dep ws kd 4)).foldl max 0 = M := ⟨_, rfl⟩
  rw [eM] at F
  have hM : ∀ y ∈ ws, dep ws kd 4 y ≤ M := fun y hy => F.1 _ (List.mem_map_of_mem hy)
  have atM : ∃ y ∈ ws, dep ws kd 4 y = M := by
    rcases F.2.2 with q | q
    · obtain ⟨y, hy⟩ := List.exists_mem_of_length_pos (l := ws) (by (first | lia | omega))
      exact ⟨y, hy, by have := hM y hy; (first | lia | omega)⟩
    · exact List.mem_map.mp q
  have M4 : M ≤ 4 := by
    obtain ⟨y, _, e⟩ := atM
    rw [← e]
    exact dep_le 4 y
  have hd : ∀ d, d ≤ M → ∃ y ∈ ws, dep ws kd 4 y = d := fun d h => by
    obtain ⟨y, hy, e⟩ := all_depths (dp := dep ws kd 4) (fun y hy h0 => by
      obtain ⟨o, ho, e⟩ := (df y hy).2 h0
      exact ⟨o, ((df y hy).1 o ho).1, e⟩) atM (M - d) (by (first | lia | omega))
    exact ⟨y, hy, by (first | lia | omega)⟩
  have due : dueA ws (dep ws kd 4) = (List.range (M + 1)).map fun d => ws.filter fun y => decide (dep ws kd 4 y = d) := by
    unfold dueA
    rw [eM]
  obtain ⟨r1, r2⟩ := D.rnd (M := M) (fun y hy => hM y (mem_dd.mp hy)) (fun d h => by
    obtain ⟨y, hy, e⟩ := hd d h
    exact ⟨y, mem_dd.mpr hy, e⟩) (fun y hy o ho => by
    have hy := mem_dd.mp hy
    rw [en y hy] at ho
    obtain ⟨h1, h2⟩ := List.mem_filter.mp ho
    exact hr y hy o h1 h2) (by (first | lia | omega))
  refine ⟨hr, ⟨M + 1, r1, ?_⟩, ?_, fun l h => ⟨mem_dd.mpr h, fl l h⟩, fun l h => Nat.le_trans (dep_le 4 l) (by decide)⟩
  · rw [r2, due]
    unfold onceA
    rw [List.map_map]
    refine List.map_congr_left fun d _ => ?_
    refine List.filter_congr fun y hy => ?_
    have hy : y ∈ ws := mem_dd.mp ((srt_perm _).mem_iff.mp hy)
    rw [Bool.eq_iff_iff, decide_eq_true_iff, decide_eq_true_iff, List.mem_filter, decide_eq_true_iff]
    exact ⟨fun q => ⟨hy, q⟩, fun q => q.2⟩
  · rw [due]
    exact lay_due (fun y hy => (df y hy).1) (fun y hy => (df y hy).2) hM hd (by (first | lia | omega))
theorem law_holds : PySem.Challenge.rw_aa0059_01.Holds := joined plain_law
end

end Mine

set_option maxRecDepth 100000 in
set_option maxHeartbeats 8000000 in
theorem PySem.Challenge.cw_aa0059_01_holds : PySem.Challenge.rw_aa0059_01.Holds := by
  exact Mine.law_holds
