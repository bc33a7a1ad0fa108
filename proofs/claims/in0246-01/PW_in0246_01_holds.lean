import PyProof.Rows.All
import Wide.All
import OpenK.AllK
import Wide.FinOn
import PySem.Challenge.RW_in0246_01
open PySem PySem.W PyProof.Rows
set_option linter.unusedVariables false
set_option Elab.async false
set_option maxRecDepth 100000
set_option maxHeartbeats 8000000
set_option rowWalk.seconds 0
namespace Mine
theorem dec_same : @instDecidableEqStr = @instDecidableEqStr := rfl
end Mine
name_quick tw6733733256287894996 for instDecidableEqStr by Mine.dec_same
name_quick tw14553827428707814869 for instDecidableEqStr by Mine.dec_same
name_quick tw8075568018651887793 for instDecidableEqStr by Mine.dec_same
name_quick tw12275153358933109682 for instDecidableEqStr by Mine.dec_same
name_quick tw14979626087600564940 for instDecidableEqStr by Mine.dec_same
name_quick tw10569802208783239087 for instDecidableEqStr by Mine.dec_same
name_quick tw5731285843209492418 for instDecidableEqStr by Mine.dec_same
name_quick tw13896205201685373497 for instDecidableEqStr by Mine.dec_same
name_quick tw11935384120112590319 for instDecidableEqStr by Mine.dec_same
name_quick tw13892231520521813962 for instDecidableEqStr by Mine.dec_same
name_quick tw9862997608875712007 for instDecidableEqStr by Mine.dec_same
name_quick tw8537084889766193716 for instDecidableEqStr by Mine.dec_same
name_quick tw11853533878840232495 for instDecidableEqStr by Mine.dec_same
name_quick tw2364824441312284604 for instDecidableEqStr by Mine.dec_same
name_quick tw17164873540382356111 for instDecidableEqStr by Mine.dec_same
name_quick tw13729253559640862656 for instDecidableEqStr by Mine.dec_same
name_quick tw7433093208181500128 for instDecidableEqStr by Mine.dec_same
name_quick tw788995980369251910 for instDecidableEqStr by Mine.dec_same
name_quick tw10944729642247514566 for instDecidableEqStr by Mine.dec_same
name_quick tw14971746577665755125 for instDecidableEqStr by Mine.dec_same
name_quick tw9339011207650244144 for instDecidableEqStr by Mine.dec_same
name_quick tw7378761846476686904 for instDecidableEqStr by Mine.dec_same
name_quick tw8897938508979226211 for instDecidableEqStr by Mine.dec_same
name_quick tw11788150170368784547 for instDecidableEqStr by Mine.dec_same
name_quick tw13981391230805400906 for instDecidableEqStr by Mine.dec_same
name_quick tw15278061642289888581 for instDecidableEqStr by Mine.dec_same
name_quick tw16414604833108395602 for instDecidableEqStr by Mine.dec_same
name_quick tw5465617051466427057 for instDecidableEqStr by Mine.dec_same
name_quick tw10938465397075749097 for instDecidableEqStr by Mine.dec_same
name_quick tw16804044748790271530 for instDecidableEqStr by Mine.dec_same
name_quick tw2862820112641550484 for instDecidableEqStr by Mine.dec_same
name_quick tw16741492637210864865 for instDecidableEqStr by Mine.dec_same
name_quick tw3698559305507148144 for instDecidableEqStr by Mine.dec_same
name_quick tw17730448691065144110 for instDecidableEqStr by Mine.dec_same
name_quick tw6004533443673955352 for instDecidableEqStr by Mine.dec_same
name_quick tw9763268239775435451 for instDecidableEqStr by Mine.dec_same
name_quick tw4444965560193506482 for instDecidableEqStr by Mine.dec_same
name_quick tw18056578402003937789 for instDecidableEqStr by Mine.dec_same
name_quick tw11566699232636054958 for instDecidableEqStr by Mine.dec_same
name_quick tw4658958612460137192 for instDecidableEqStr by Mine.dec_same
name_quick tw15480198773659482676 for instDecidableEqStr by Mine.dec_same
name_quick tw11452132507678324671 for instDecidableEqStr by Mine.dec_same
name_quick tw9407582987413476825 for instDecidableEqStr by Mine.dec_same
name_quick tw4636218855388986860 for instDecidableEqStr by Mine.dec_same
name_quick tw17954471519018878134 for instDecidableEqStr by Mine.dec_same
name_quick tw3362959441861295915 for instDecidableEqStr by Mine.dec_same
name_quick tw13789449189825218787 for instDecidableEqStr by Mine.dec_same
name_quick tw14386061602966655976 for instDecidableEqStr by Mine.dec_same
name_quick tw2627984346626558326 for instDecidableEqStr by Mine.dec_same
name_quick tw14376985748213822385 for instDecidableEqStr by Mine.dec_same
name_quick tw5591276700874282246 for instDecidableEqStr by Mine.dec_same
name_quick tw17925548735911062312 for instDecidableEqStr by Mine.dec_same
name_quick tw10253492065209306289 for instDecidableEqStr by Mine.dec_same
name_quick tw17069979004554194336 for instDecidableEqStr by Mine.dec_same
name_quick tw1702518465993881591 for instDecidableEqStr by Mine.dec_same
name_quick tw9948023125614773506 for instDecidableEqStr by Mine.dec_same
name_quick tw12635297910168745909 for instDecidableEqStr by Mine.dec_same
name_quick tw4933834842325187142 for instDecidableEqStr by Mine.dec_same
name_quick tw14956549838072327282 for instDecidableEqStr by Mine.dec_same
name_quick tw2313353295222260650 for instDecidableEqStr by Mine.dec_same
name_quick tw2452820758585089575 for instDecidableEqStr by Mine.dec_same
name_quick tw4797165386629745026 for instDecidableEqStr by Mine.dec_same
name_quick tw8703263022893421829 for instDecidableEqStr by Mine.dec_same
name_quick tw10948738476641704880 for instDecidableEqStr by Mine.dec_same
name_quick tw8119918657739134586 for instDecidableEqStr by Mine.dec_same
name_quick tw10942035263794033107 for instDecidableEqStr by Mine.dec_same
name_quick tw2670528217467546775 for instDecidableEqStr by Mine.dec_same
name_quick tw4527066259768149269 for instDecidableEqStr by Mine.dec_same
name_quick tw18323700119837366958 for instDecidableEqStr by Mine.dec_same
name_quick tw8603108125212654177 for instDecidableEqStr by Mine.dec_same
name_quick tw14714103240675001986 for instDecidableEqStr by Mine.dec_same
name_quick tw13335737130258781183 for instDecidableEqStr by Mine.dec_same
name_quick tw1258717718454355964 for instDecidableEqStr by Mine.dec_same
name_quick tw17000458434675057986 for instDecidableEqStr by Mine.dec_same
name_quick tw17000155066101142889 for instDecidableEqStr by Mine.dec_same
name_quick tw11346108149598046533 for instDecidableEqStr by Mine.dec_same
name_quick tw9908251947323293946 for instDecidableEqStr by Mine.dec_same
name_quick tw2905824091091238844 for instDecidableEqStr by Mine.dec_same
name_quick tw662354867322794072 for instDecidableEqStr by Mine.dec_same
name_quick tw2354135333415324597 for instDecidableEqStr by Mine.dec_same
name_quick tw10073347824450446311 for instDecidableEqStr by Mine.dec_same
name_quick tw117213463901210413 for instDecidableEqStr by Mine.dec_same
name_quick tw3972328310683599613 for instDecidableEqStr by Mine.dec_same
name_quick tw8693227569615203950 for instDecidableEqStr by Mine.dec_same
name_quick tw13559156169165276386 for instDecidableEqStr by Mine.dec_same
name_quick tw3577408171920636059 for instDecidableEqStr by Mine.dec_same
name_quick tw14023627001141898710 for instDecidableEqStr by Mine.dec_same
name_quick tw6380047634161181297 for instDecidableEqStr by Mine.dec_same
name_quick tw3094477031063562474 for instDecidableEqStr by Mine.dec_same
name_quick tw13678640442995254988 for instDecidableEqStr by Mine.dec_same
name_quick tw15158043598476960053 for instDecidableEqStr by Mine.dec_same
name_quick tw14168537005229113720 for instDecidableEqStr by Mine.dec_same
name_quick tw3619232141914619222 for instDecidableEqStr by Mine.dec_same
name_quick tw15894407043143930727 for instDecidableEqStr by Mine.dec_same
name_quick tw2664551874359636763 for instDecidableEqStr by Mine.dec_same
name_quick tw5349121933718820234 for instDecidableEqStr by Mine.dec_same
name_quick tw6929956602132211858 for instDecidableEqStr by Mine.dec_same
name_quick tw14433975572909055671 for instDecidableEqStr by Mine.dec_same
name_quick tw11729385059970357855 for instDecidableEqStr by Mine.dec_same
name_quick tw17057272898397164401 for instDecidableEqStr by Mine.dec_same
name_quick tw16349804527192203551 for instDecidableEqStr by Mine.dec_same
name_quick tw13479600455187215721 for instDecidableEqStr by Mine.dec_same
name_quick tw8860024209350480642 for instDecidableEqStr by Mine.dec_same
name_quick tw9285146279643344392 for instDecidableEqStr by Mine.dec_same
name_quick tw14821650378409806113 for instDecidableEqStr by Mine.dec_same
name_quick tw10753579090125970612 for instDecidableEqStr by Mine.dec_same
name_quick tw10063671712614023339 for instDecidableEqStr by Mine.dec_same
name_quick tw6817277305950994716 for instDecidableEqStr by Mine.dec_same
name_quick tw7299303143086499733 for instDecidableEqStr by Mine.dec_same
name_quick tw13236226663087606529 for instDecidableEqStr by Mine.dec_same
name_quick tw4011157648589011858 for instDecidableEqStr by Mine.dec_same
name_quick tw3282434896037501709 for instDecidableEqStr by Mine.dec_same
name_quick tw4302124980754421698 for instDecidableEqStr by Mine.dec_same
name_quick tw17532440430192770315 for instDecidableEqStr by Mine.dec_same
name_quick tw1377046205977697930 for instDecidableEqStr by Mine.dec_same
name_quick tw11939915149646268982 for instDecidableEqStr by Mine.dec_same
name_quick tw17888162413812561239 for instDecidableEqStr by Mine.dec_same
name_quick tw17497748084772794779 for instDecidableEqStr by Mine.dec_same
name_quick tw10706342367453228570 for instDecidableEqStr by Mine.dec_same
name_quick tw1218959903707654005 for instDecidableEqStr by Mine.dec_same
name_quick tw2997306320072185856 for instDecidableEqStr by Mine.dec_same
name_quick tw11270796479367742343 for instDecidableEqStr by Mine.dec_same
name_quick tw14311459727803291754 for instDecidableEqStr by Mine.dec_same
name_quick tw11543547407058413889 for instDecidableEqStr by Mine.dec_same
name_quick tw10887116778572429059 for instDecidableEqStr by Mine.dec_same
name_quick tw16593013826814733010 for instDecidableEqStr by Mine.dec_same
name_quick tw10424941004445345732 for instDecidableEqStr by Mine.dec_same
name_quick tw505943868828395459 for instDecidableEqStr by Mine.dec_same
name_quick tw15066959818950650227 for instDecidableEqStr by Mine.dec_same
name_quick tw12290603225136948437 for instDecidableEqStr by Mine.dec_same
name_quick tw9315938663221665524 for instDecidableEqStr by Mine.dec_same
name_quick tw2039238271031011813 for instDecidableEqStr by Mine.dec_same
name_quick tw2478078296215019888 for instDecidableEqStr by Mine.dec_same
name_quick tw4558998842232669794 for instDecidableEqStr by Mine.dec_same
name_quick tw2719445374943340272 for instDecidableEqStr by Mine.dec_same
name_quick tw951843321253372498 for instDecidableEqStr by Mine.dec_same
name_quick tw5032809538720368765 for instDecidableEqStr by Mine.dec_same
name_quick tw11588390666370768167 for instDecidableEqStr by Mine.dec_same
name_quick tw4552823106982906706 for instDecidableEqStr by Mine.dec_same
name_quick tw15007238320947547705 for instDecidableEqStr by Mine.dec_same
name_quick tw7721631327575515661 for instDecidableEqStr by Mine.dec_same
name_quick tw5357591511691535388 for instDecidableEqStr by Mine.dec_same
name_quick tw18345786424863182364 for instDecidableEqStr by Mine.dec_same
name_quick tw13145125596335152023 for instDecidableEqStr by Mine.dec_same
name_quick tw2611137233208623240 for instDecidableEqStr by Mine.dec_same
name_quick tw1402947280878808549 for instDecidableEqStr by Mine.dec_same
name_quick tw7323676302269181137 for instDecidableEqStr by Mine.dec_same
name_quick tw704327219915372674 for instDecidableEqStr by Mine.dec_same
name_quick tw14223099787259518943 for instDecidableEqStr by Mine.dec_same
name_quick tw8424611434330503625 for instDecidableEqStr by Mine.dec_same
name_quick tw5268983451555188008 for instDecidableEqStr by Mine.dec_same
name_quick tw10996506086634736982 for instDecidableEqStr by Mine.dec_same
name_quick tw392140993173905013 for instDecidableEqStr by Mine.dec_same
name_quick tw900395245841561262 for instDecidableEqStr by Mine.dec_same
name_quick tw14108194823987119177 for instDecidableEqStr by Mine.dec_same
name_quick tw11186114360453789277 for instDecidableEqStr by Mine.dec_same
name_quick tw10010936943081839664 for instDecidableEqStr by Mine.dec_same
name_quick tw12233582284571471492 for instDecidableEqStr by Mine.dec_same
name_quick tw8719427161674164953 for instDecidableEqStr by Mine.dec_same
name_quick tw16643379632663270332 for instDecidableEqStr by Mine.dec_same
name_quick tw5902227825499142635 for instDecidableEqStr by Mine.dec_same
name_quick tw9501820088010722379 for instDecidableEqStr by Mine.dec_same
name_quick tw14725528821904125628 for instDecidableEqStr by Mine.dec_same
name_quick tw4980102563643897964 for instDecidableEqStr by Mine.dec_same
name_quick tw7275051467321613617 for instDecidableEqStr by Mine.dec_same
name_quick tw2660918139993853925 for instDecidableEqStr by Mine.dec_same
name_quick tw16145008321745377990 for instDecidableEqStr by Mine.dec_same
name_quick tw17730428716208468724 for instDecidableEqStr by Mine.dec_same
name_quick tw3636048126100218174 for instDecidableEqStr by Mine.dec_same
name_quick tw16531745337717519161 for instDecidableEqStr by Mine.dec_same
name_quick tw17975652961387846372 for instDecidableEqStr by Mine.dec_same
name_quick tw18340240734955500558 for instDecidableEqStr by Mine.dec_same
name_quick tw17476080006546285661 for instDecidableEqStr by Mine.dec_same
name_quick tw16049961110935095269 for instDecidableEqStr by Mine.dec_same
name_quick tw151948405760981731 for instDecidableEqStr by Mine.dec_same
name_quick tw15263041282635125899 for instDecidableEqStr by Mine.dec_same
name_quick tw17100903815162463580 for instDecidableEqStr by Mine.dec_same
name_quick tw17828083071136270317 for instDecidableEqStr by Mine.dec_same
name_quick tw1962928258387122110 for instDecidableEqStr by Mine.dec_same
name_quick tw12866136484021002089 for instDecidableEqStr by Mine.dec_same
name_quick tw387338674003428930 for instDecidableEqStr by Mine.dec_same
name_quick tw14243680251048581348 for instDecidableEqStr by Mine.dec_same
name_quick tw13317431791736044220 for instDecidableEqStr by Mine.dec_same
name_quick tw9011979029575296479 for instDecidableEqStr by Mine.dec_same
name_quick tw2283851925072248500 for instDecidableEqStr by Mine.dec_same
name_quick tw1258299570235058372 for instDecidableEqStr by Mine.dec_same
name_quick tw14834023430324568649 for instDecidableEqStr by Mine.dec_same
name_quick tw3764465048917985505 for instDecidableEqStr by Mine.dec_same
name_quick tw11985326045990495214 for instDecidableEqStr by Mine.dec_same
name_quick tw16916688483869632129 for instDecidableEqStr by Mine.dec_same
name_quick tw16018607276475445134 for instDecidableEqStr by Mine.dec_same
name_quick tw16350708796919097252 for instDecidableEqStr by Mine.dec_same
name_quick tw6448080314894763839 for instDecidableEqStr by Mine.dec_same
name_quick tw17279654841073493023 for instDecidableEqStr by Mine.dec_same
name_quick tw7269565832213808900 for instDecidableEqStr by Mine.dec_same
name_quick tw7892128664451923741 for instDecidableEqStr by Mine.dec_same
name_quick tw1414301608579184545 for instDecidableEqStr by Mine.dec_same
name_quick tw3891137856419664920 for instDecidableEqStr by Mine.dec_same
name_quick tw11313170107247368264 for instDecidableEqStr by Mine.dec_same
name_quick tw11306939235166856333 for instDecidableEqStr by Mine.dec_same
name_quick tw18101931140130867144 for instDecidableEqStr by Mine.dec_same
name_quick tw3093977132361051618 for instDecidableEqStr by Mine.dec_same
name_quick tw7250012664060256230 for instDecidableEqStr by Mine.dec_same
name_quick tw5200128776193632040 for instDecidableEqStr by Mine.dec_same
name_quick tw8595292554425487202 for instDecidableEqStr by Mine.dec_same
name_quick tw15980859228951719591 for instDecidableEqStr by Mine.dec_same
name_quick tw6679490504615227074 for instDecidableEqStr by Mine.dec_same
name_quick tw10528696920762540405 for instDecidableEqStr by Mine.dec_same
name_quick tw1829445100760108279 for instDecidableEqStr by Mine.dec_same
name_quick tw6589095468515690095 for instDecidableEqStr by Mine.dec_same
name_quick tw9564595351457756722 for instDecidableEqStr by Mine.dec_same
name_quick tw7276740287692124622 for instDecidableEqStr by Mine.dec_same
name_quick tw12767683915131110723 for instDecidableEqStr by Mine.dec_same
name_quick tw4978915544186085027 for instDecidableEqStr by Mine.dec_same
name_quick tw9759809726879904816 for instDecidableEqStr by Mine.dec_same
name_quick tw14530364306720264245 for instDecidableEqStr by Mine.dec_same
name_quick tw11333186260410459676 for instDecidableEqStr by Mine.dec_same
name_quick tw460243522976405022 for instDecidableEqStr by Mine.dec_same
name_quick tw6654550962395885724 for instDecidableEqStr by Mine.dec_same
name_quick tw6122645084068987007 for instDecidableEqStr by Mine.dec_same
name_quick tw14326252917377295143 for instDecidableEqStr by Mine.dec_same
name_quick tw6434138532213402376 for instDecidableEqStr by Mine.dec_same
name_quick tw15742981410569661332 for instDecidableEqStr by Mine.dec_same
name_quick tw14884601019740666482 for instDecidableEqStr by Mine.dec_same
name_quick tw4292500188555128830 for instDecidableEqStr by Mine.dec_same
name_quick tw18211773271919218964 for instDecidableEqStr by Mine.dec_same
name_quick tw4549333791460862111 for instDecidableEqStr by Mine.dec_same
name_quick tw13512673800721320934 for instDecidableEqStr by Mine.dec_same
name_quick tw682011567655089306 for instDecidableEqStr by Mine.dec_same
name_quick tw1092655722715705105 for instDecidableEqStr by Mine.dec_same
name_quick tw1355338860687761863 for instDecidableEqStr by Mine.dec_same
name_quick tw3131671291697673992 for instDecidableEqStr by Mine.dec_same
name_quick tw5770868932273138760 for instDecidableEqStr by Mine.dec_same
name_quick tw136631920214876835 for instDecidableEqStr by Mine.dec_same
name_quick tw11317593695737139937 for instDecidableEqStr by Mine.dec_same
name_quick tw470574548607681690 for instDecidableEqStr by Mine.dec_same
name_quick tw7232422423428716515 for instDecidableEqStr by Mine.dec_same
name_quick tw4071324889030633612 for instDecidableEqStr by Mine.dec_same
name_quick tw12945451867199242903 for instDecidableEqStr by Mine.dec_same
name_quick tw15168306246750427876 for instDecidableEqStr by Mine.dec_same
name_quick tw17532718790514356516 for instDecidableEqStr by Mine.dec_same
name_quick tw6683783046931543321 for instDecidableEqStr by Mine.dec_same
name_quick tw6245536207120538393 for instDecidableEqStr by Mine.dec_same
name_quick tw5721027456603625697 for instDecidableEqStr by Mine.dec_same
name_quick tw1333364371103165705 for instDecidableEqStr by Mine.dec_same
name_quick tw13900631225919944168 for instDecidableEqStr by Mine.dec_same
name_quick tw1229493121823783015 for instDecidableEqStr by Mine.dec_same
name_quick tw13057501360547312074 for instDecidableEqStr by Mine.dec_same
name_quick tw15832565104096599602 for instDecidableEqStr by Mine.dec_same
name_quick tw8376752744543775738 for instDecidableEqStr by Mine.dec_same
name_quick tw8059936575790774395 for instDecidableEqStr by Mine.dec_same
name_quick tw15059494819884010274 for instDecidableEqStr by Mine.dec_same
name_quick tw6476718242876238587 for instDecidableEqStr by Mine.dec_same
name_quick tw2963401690265292820 for instDecidableEqStr by Mine.dec_same
name_quick tw3778451253796500701 for instDecidableEqStr by Mine.dec_same
name_quick tw17018628822417861297 for instDecidableEqStr by Mine.dec_same
name_quick tw8579058602437062094 for instDecidableEqStr by Mine.dec_same
name_quick tw11277716924127702174 for instDecidableEqStr by Mine.dec_same
name_quick tw12659028871203227004 for instDecidableEqStr by Mine.dec_same
name_quick tw11130039905162102590 for instDecidableEqStr by Mine.dec_same
namespace Mine
open_top hd for PySem.Challenge.rw_in0246_01
end Mine
local macro_rules | `(tactic| walk_at $s:str) => `(tactic| k_extra $s)
theorem Mine.top_off : True := by
  w_top off
  first | walk1 | trivial
section
namespace Mine
/-! the plain law of a heap: no program in sight -/
theorem getD_set_self {l : List Int} {i : Nat} {x : Int} (h : i < l.length) : (l.set i x).getD i 0 = x := by
  simp [List.getD_eq_getElem?_getD, h]
theorem getD_set_ne {l : List Int} {i j : Nat} {x : Int} (h : i ≠ j) : (l.set i x).getD j 0 = l.getD j 0 := by
  simp [List.getD_eq_getElem?_getD, List.getElem?_set_ne h]
theorem set_getD_self {l : List Int} {i : Nat} (h : i < l.length) : l.set i (l.getD i 0) = l := by
  have : l.getD i 0 = l[i] := by simp [List.getD_eq_getElem?_getD, h]
  rw [this]
  exact List.set_getElem_self h
theorem perm_set {l : List Int} {i : Nat} (x : Int) (h : i < l.length) : (l.getD i 0 :: l.set i x).Perm (x :: l) := by
  induction l generalizing i with
  | nil => simp at h
  | cons a r ih =>
    cases i with
    | zero => simp; exact List.Perm.swap ..
    | succ i =>
      have hr : i < r.length := by simpa using h
      have e : (a :: r).getD (i + 1) 0 = r.getD i 0 := by simp
      rw [e, List.set_cons_succ]
      exact ((List.Perm.swap ..).trans ((ih hr).cons a)).trans (List.Perm.swap ..)
theorem perm_swap {l : List Int} {i j : Nat} (hi : i < l.length) (hj : j < l.length) (hne : i ≠ j) (x : Int) : ((l.set i (l.getD j 0)).set j x).Perm (l.set i x) := by
  have h1 := perm_set (l := l.set i (l.getD j 0)) (i := j) x (by simpa using hj)
  rw [getD_set_ne hne] at h1
  have h2 := perm_set (l := l) (i := i) (l.getD j 0) hi
  have h3 := perm_set (l := l) (i := i) x hi
  -- b :: A ~ x :: l.set i b, a :: l.set i b ~ b :: l, a :: l.set i x ~ x :: l
  have h4 : (l.getD i 0 :: l.getD j 0 :: (l.set i (l.getD j 0)).set j x).Perm (l.getD i 0 :: l.getD j 0 :: l.set i x) := by
    refine (h1.cons _).trans ?_
    refine (List.Perm.swap ..).trans ?_
    refine (h2.cons _).trans ?_
    refine (List.Perm.swap ..).trans ?_
    exact (h3.symm.cons _).trans (List.Perm.swap ..)
  exact (List.perm_cons _).mp ((List.perm_cons _).mp h4)

def IsHp (ns : List Int) : Prop := ∀ i, 0 < i → i < ns.length → ns.getD ((i - 1) / 2) 0 ≤ ns.getD i 0
def OrdBut (ns : List Int) (k : Nat) : Prop := ∀ i, 0 < i → i < ns.length → i ≠ k → ns.getD ((i - 1) / 2) 0 ≤ ns.getD i 0
def Grand (ns : List Int) (k : Nat) : Prop := 0 < k → ∀ c, 0 < c → c < ns.length → (c - 1) / 2 = k → ns.getD ((k - 1) / 2) 0 ≤ ns.getD c 0
structure SdInv (ns : List Int) (x : Int) (h : List Int) (q : Nat) : Prop where
  len : h.length = ns.length
  lt : q < ns.length
  perm : (h.set q x).Perm ns
  ord : OrdBut (h.set q x) q
  grand : Grand (h.set q x) q
theorem sd_start {ns : List Int} {q : Nat} (hq : q < ns.length) (ho : OrdBut ns q) (hg : Grand ns q) : SdInv ns (ns.getD q 0) ns q :=
  ⟨rfl, hq, by rw [set_getD_self hq], by rw [set_getD_self hq]; exact ho, by rw [set_getD_self hq]; exact hg⟩
theorem par_lt {c : Nat} (h : 0 < c) : (c - 1) / 2 < c := Nat.lt_of_le_of_lt (Nat.div_le_self _ _) (Nat.sub_lt h Nat.one_pos)
theorem sd_step {ns h : List Int} {x : Int} {q : Nat} (I : SdInv ns x h q) (h0 : 0 < q) (hx : x < h.getD ((q - 1) / 2) 0) : SdInv ns x (h.set q (h.getD ((q - 1) / 2) 0)) ((q - 1) / 2) := by
  obtain ⟨len, lt, perm, ord, grand⟩ := I
  have hq : q < h.length := by (first | lia | omega)
  have hr : (q - 1) / 2 < h.length := Nat.lt_trans (par_lt h0) hq
  have hne : q ≠ (q - 1) / 2 := Nat.ne_of_gt (par_lt h0)
  refine ⟨by simpa using len, Nat.lt_trans (par_lt h0) lt, (perm_swap hq hr hne x).trans perm, ?_, ?_⟩
  · intro i hi hl hne'
    simp only [List.length_set] at hl
    have hr2 : (q - 1) / 2 < (h.set q (h.getD ((q - 1) / 2) 0)).length := by simpa using hr
    have o := ord i hi (by simpa using hl)
    rw [getD_set_ne (Ne.symm hne')]
    by_cases hp : (i - 1) / 2 = (q - 1) / 2
    · rw [hp, getD_set_self hr2]
      by_cases hiq : i = q
      · subst hiq; rw [getD_set_self hq]; (first | lia | omega)
      · rw [getD_set_ne (Ne.symm hiq)]
        have o' := o hiq
        rw [hp, getD_set_ne hne, getD_set_ne (Ne.symm hiq)] at o'
        (first | lia | omega)
    · rw [getD_set_ne (Ne.symm hp)]
      by_cases hiq : i = q
      · subst hiq; exact absurd rfl hp
      · rw [getD_set_ne (Ne.symm hiq)]
        by_cases hpq : (i - 1) / 2 = q
        · rw [hpq, getD_set_self hq]
          have g := grand h0 i hi (by simpa using hl) hpq
          rw [getD_set_ne hne, getD_set_ne (Ne.symm hiq)] at g
          exact g
        · rw [getD_set_ne (Ne.symm hpq)]
          have o' := o hiq
          rw [getD_set_ne (Ne.symm hpq), getD_set_ne (Ne.symm hiq)] at o'
          exact o'
  · intro hp0 c hc hl hpc
    simp only [List.length_set] at hl
    have hcr : (q - 1) / 2 ≠ c := Nat.ne_of_lt (hpc ▸ par_lt hc)
    have hrr : (q - 1) / 2 ≠ ((q - 1) / 2 - 1) / 2 := Nat.ne_of_gt (par_lt hp0)
    have hqr : q ≠ ((q - 1) / 2 - 1) / 2 := Nat.ne_of_gt (Nat.lt_trans (par_lt hp0) (par_lt h0))
    rw [getD_set_ne hcr, getD_set_ne hrr, getD_set_ne hqr]
    have o1 := ord ((q - 1) / 2) hp0 (by simpa using hr) (Ne.symm hne)
    rw [getD_set_ne hqr, getD_set_ne hne] at o1
    by_cases hcq : c = q
    · subst hcq; rw [getD_set_self hq]; exact o1
    · rw [getD_set_ne (Ne.symm hcq)]
      have o2 := ord c hc (by simpa using hl) hcq
      rw [hpc, getD_set_ne hne, getD_set_ne (Ne.symm hcq)] at o2
      (first | lia | omega)
theorem sd_end0 {ns h : List Int} {x : Int} {q : Nat} (I : SdInv ns x h q) (h0 : ¬ 0 < q) : IsHp (h.set q x) := fun i hi hl => I.ord i hi hl (by (first | lia | omega))
theorem sd_end1 {ns h : List Int} {x : Int} {q : Nat} (I : SdInv ns x h q) (hx : ¬ x < h.getD ((q - 1) / 2) 0) : IsHp (h.set q x) := fun i hi hl => by
  by_cases e : i = q
  · subst e
    have hq : i < h.length := by have := I.len; have := I.lt; (first | lia | omega)
    rw [getD_set_self hq, getD_set_ne (by (first | lia | omega))]
    (first | lia | omega)
  · exact I.ord i hi hl e

structure SuInv (ns : List Int) (x : Int) (h : List Int) (q : Nat) : Prop where
  len : h.length = ns.length
  lt : q < ns.length
  perm : (h.set q x).Perm ns
  ord : ∀ i, 0 < i → i < ns.length → i ≠ q → (i - 1) / 2 ≠ q → (h.set q x).getD ((i - 1) / 2) 0 ≤ (h.set q x).getD i 0
  grand : Grand (h.set q x) q
theorem su_start {ns : List Int} (h0 : 0 < ns.length) (ho : ∀ i, 0 < i → i < ns.length → (i - 1) / 2 ≠ 0 → ns.getD ((i - 1) / 2) 0 ≤ ns.getD i 0) : SuInv ns (ns.getD 0 0) ns 0 :=
  ⟨rfl, h0, by rw [set_getD_self h0], fun i hi hl _ hp => by rw [set_getD_self h0]; exact ho i hi hl hp, fun h => absurd h (Nat.lt_irrefl _)⟩
theorem su_step {ns h : List Int} {x : Int} {q c : Nat} (I : SuInv ns x h q) (hc0 : 0 < c) (hc : c < ns.length) (hp : (c - 1) / 2 = q) (hmin : ∀ d, 0 < d → d < ns.length → (d - 1) / 2 = q → h.getD c 0 ≤ h.getD d 0) : SuInv ns x (h.set q (h.getD c 0)) c := by
  obtain ⟨len, lt, perm, ord, grand⟩ := I
  have hq : q < h.length := by (first | lia | omega)
  have hcl : c < h.length := by (first | lia | omega)
  have hqc : q < c := hp ▸ par_lt hc0
  have hne : q ≠ c := Nat.ne_of_lt hqc
  have hq2 : q < (h.set q (h.getD c 0)).length := by simpa using hq
  refine ⟨by simpa using len, hc, (perm_swap hq hcl hne x).trans perm, ?_, ?_⟩
  · intro i hi hl hic hpc
    rw [getD_set_ne (Ne.symm hic), getD_set_ne (Ne.symm hpc)]
    by_cases hpq : (i - 1) / 2 = q
    · rw [hpq, getD_set_self hq, getD_set_ne (Nat.ne_of_lt (hpq ▸ par_lt hi))]
      exact hmin i hi hl hpq
    · rw [getD_set_ne (Ne.symm hpq)]
      by_cases hiq : i = q
      · rw [hiq, getD_set_self hq]
        have hq0 : 0 < q := hiq ▸ hi
        have g := grand hq0 c hc0 (by simpa using hcl) hp
        rw [getD_set_ne (Nat.ne_of_gt (par_lt hq0)), getD_set_ne hne] at g
        exact g
      · rw [getD_set_ne (Ne.symm hiq)]
        have o := ord i hi hl hiq hpq
        rw [getD_set_ne (Ne.symm hpq), getD_set_ne (Ne.symm hiq)] at o
        exact o
  · intro _ d hd hl hpd
    simp only [List.length_set] at hl
    have hcd : c < d := hpd ▸ par_lt hd
    have hqd : q < d := Nat.lt_trans hqc hcd
    rw [hp, getD_set_ne (Ne.symm hne), getD_set_self hq, getD_set_ne (Nat.ne_of_lt hcd), getD_set_ne (Nat.ne_of_lt hqd)]
    have o := ord d hd (len ▸ hl) (Nat.ne_of_gt hqd) (hpd ▸ Nat.ne_of_gt hqc)
    rw [hpd, getD_set_ne hne, getD_set_ne (Nat.ne_of_lt hqd)] at o
    exact o
theorem su_end {ns h : List Int} {x : Int} {q : Nat} (I : SuInv ns x h q) (he : ¬ 2 * q + 1 < ns.length) : OrdBut (h.set q x) q ∧ Grand (h.set q x) q :=
  ⟨fun i hi hl hne => by
    simp only [List.length_set] at hl
    exact I.ord i hi (by have := I.len; (first | lia | omega)) hne (by have := I.len; (first | lia | omega)), I.grand⟩
theorem getD_left {l : List Int} {x : Int} {i : Nat} (h : i < l.length) : (l ++ [x]).getD i 0 = l.getD i 0 := by
  simp [List.getD_eq_getElem?_getD, List.getElem?_append_left h]
theorem push_ord {ns : List Int} {x : Int} {q : Nat} (h : IsHp ns) (hq : q = ns.length) : OrdBut (ns ++ [x]) q ∧ Grand (ns ++ [x]) q := by
  subst hq
  refine ⟨fun i hi hl hne => ?_, fun _ c hc hl hp => ?_⟩
  · simp only [List.length_append, List.length_cons, List.length_nil] at hl
    rw [getD_left (by (first | lia | omega)), getD_left (by (first | lia | omega))]
    exact h i hi (by (first | lia | omega))
  · simp only [List.length_append, List.length_cons, List.length_nil] at hl
    (first | lia | omega)
theorem replace_ord {ns : List Int} {x : Int} (h : IsHp ns) : ∀ i, 0 < i → i < (ns.set 0 x).length → (i - 1) / 2 ≠ 0 → (ns.set 0 x).getD ((i - 1) / 2) 0 ≤ (ns.set 0 x).getD i 0 := by
  intro i hi hl hp
  rw [getD_set_ne (by (first | lia | omega)), getD_set_ne (by (first | lia | omega))]
  exact h i hi (by simpa using hl)
theorem getD_dropLast {l : List Int} {i : Nat} (h : i < l.length - 1) : l.dropLast.getD i 0 = l.getD i 0 := by
  rw [List.getD_eq_getElem?_getD, List.getD_eq_getElem?_getD, List.getElem?_eq_getElem (by rw [List.length_dropLast]; exact h), List.getElem?_eq_getElem (show i < l.length by (first | lia | omega)), List.getElem_dropLast]
theorem drop_hp {ns : List Int} (h : IsHp ns) : IsHp ns.dropLast := by
  intro i hi hl
  rw [List.length_dropLast] at hl
  rw [getD_dropLast (by (first | lia | omega)), getD_dropLast hl]
  exact h i hi (by (first | lia | omega))
theorem last_perm {ns : List Int} (h : 0 < ns.length) : (ns.getLastD 0 :: ns.dropLast).Perm ns := by
  have hne : ns ≠ [] := fun e => by rw [e] at h; exact Nat.lt_irrefl _ h
  have e : ns.dropLast ++ [ns.getLastD 0] = ns := by
    have := List.dropLast_concat_getLast hne
    rw [show ns.getLastD 0 = ns.getLast hne by rw [List.getLastD_eq_getLast?, List.getLast?_eq_some_getLast hne]; rfl]
    exact this
  exact (List.perm_append_singleton _ _).symm.trans (by rw [e])
theorem pop_perm {ns l : List Int} (h : 0 < ns.dropLast.length) (hp : l.Perm (ns.dropLast.set 0 (ns.getLastD 0))) : (ns.getD 0 0 :: l).Perm ns := by
  have hl : 1 < ns.length := by rw [List.length_dropLast] at h; (first | lia | omega)
  have h1 := perm_set (l := ns.dropLast) (i := 0) (ns.getLastD 0) h
  rw [getD_dropLast (by (first | lia | omega))] at h1
  exact ((hp.cons _).trans h1).trans (last_perm (by (first | lia | omega)))
theorem pop_one {ns : List Int} (h : 0 < ns.length) (h1 : ns.dropLast = []) : ns.getLastD 0 = ns.getD 0 0 ∧ (ns.getD 0 0 :: ns.dropLast).Perm ns := by
  cases ns with
  | nil => simp at h
  | cons a r =>
    cases r with
    | nil => exact ⟨rfl, .refl _⟩
    | cons b r => simp at h1
theorem hp_nil : IsHp [] := fun i hi hl => by simp at hl
end Mine
end
section
namespace Mine
/-! the plain law of the weights -/
def wSum (lims ws : List Int) : Int := ((lims.zip ws.reverse).map fun q => q.1 * q.2).sum
def wRec (lims ws : List Int) : Int := wSum lims ws + (if ws.length < lims.length then 1 else 0)
/-- what _law_weights has laid so far -/
inductive Wts (lims : List Int) : List Int → Prop
  | one : Wts lims [1]
  | next {ws : List Int} : Wts lims ws → ws.getLastD 0 < 100000 → Wts lims (ws ++ [wRec lims ws])
theorem getLastD_snoc (ws : List Int) (x : Int) : (ws ++ [x]).getLastD 0 = x := by
  rw [List.getLastD_eq_getLast?, List.getLast?_append]; rfl
structure WFacts (lims ws : List Int) : Prop where
  pos : 0 < ws.length
  len : (ws.length : Int) ≤ ws.getLastD 0
  ge : ∀ x ∈ ws, 1 ≤ x
  le : ∀ x ∈ ws, x ≤ ws.getLastD 0
  top : ws.getLastD 0 ≤ 3000000
theorem last_eq {ws : List Int} (h : 0 < ws.length) : ∃ r, ws = r ++ [ws.getLastD 0] := by
  have hne : ws ≠ [] := fun e => by rw [e] at h; exact Nat.lt_irrefl _ h
  refine ⟨ws.dropLast, ?_⟩
  rw [show ws.getLastD 0 = ws.getLast hne by rw [List.getLastD_eq_getLast?, List.getLast?_eq_some_getLast hne]; rfl]
  exact (List.dropLast_concat_getLast hne).symm
/-- sums of products of limits from 1 to 9 -/
theorem zipSum_bounds (B : Int) (hB : 0 ≤ B) : ∀ (ls us : List Int), (∀ x ∈ ls, 1 ≤ x ∧ x ≤ 9) → (∀ y ∈ us, 1 ≤ y ∧ y ≤ B) →
    0 ≤ ((ls.zip us).map fun q => q.1 * q.2).sum ∧ ((ls.zip us).map fun q => q.1 * q.2).sum ≤ ls.length * (9 * B) ∧ (0 < ls.length → 0 < us.length → 1 ≤ ((ls.zip us).map fun q => q.1 * q.2).sum)
  | [], us, _, _ => by simp
  | a :: ls, [], _, _ => by
    simp
    have : 0 ≤ ((ls.length : Int) + 1) * (9 * B) := Int.mul_nonneg (by (first | lia | omega)) (by (first | lia | omega))
    exact this
  | a :: ls, u :: us, hl, hu => by
    obtain ⟨i1, i2, _⟩ := zipSum_bounds B hB ls us (fun x hx => hl x (.tail _ hx)) (fun y hy => hu y (.tail _ hy))
    have ha := hl a (.head _)
    have hb := hu u (.head _)
    have h1 : 1 ≤ a * u := by have := Int.mul_le_mul ha.1 hb.1 (by (first | lia | omega)) (by (first | lia | omega)); (first | lia | omega)
    have h2 : a * u ≤ 9 * B := Int.mul_le_mul ha.2 hb.2 (by (first | lia | omega)) (by (first | lia | omega))
    simp only [List.zip_cons_cons, List.map_cons, List.sum_cons, List.length_cons, Int.natCast_add, Int.natCast_one]
    rw [Int.add_mul, Int.one_mul]
    exact ⟨by (first | lia | omega), by (first | lia | omega), fun _ _ => by (first | lia | omega)⟩
theorem wts_facts {lims ws : List Int} (hl : ∀ x ∈ lims, 1 ≤ x ∧ x ≤ 9) (h2 : 2 ≤ lims.length) (h3 : lims.length ≤ 3) (W : Wts lims ws) : WFacts lims ws := by
  induction W with
  | one => exact ⟨by simp, by simp, by simp, by simp, by simp⟩
  | @next ws W hlt ih =>
    obtain ⟨pos, len, ge, le, top⟩ := ih
    obtain ⟨r, hr⟩ := last_eq pos
    have hub : ∀ y ∈ ws.reverse, 1 ≤ y ∧ y ≤ ws.getLastD 0 := fun y hy => ⟨ge y (List.mem_reverse.mp hy), le y (List.mem_reverse.mp hy)⟩
    have hB : 0 ≤ ws.getLastD 0 := by (first | lia | omega)
    have hall := zipSum_bounds (ws.getLastD 0) hB lims ws.reverse hl hub
    have hrec : ws.getLastD 0 + 1 ≤ wRec lims ws ∧ wRec lims ws ≤ 3000000 := by
      constructor
      · unfold wRec wSum
        match lims, h2, hl with
        | a :: b :: ls, _, hl =>
          have hrv : ws.reverse = ws.getLastD 0 :: r.reverse := by
            have := congrArg List.reverse hr
            simpa using this
          rw [hrv]
          simp only [List.zip_cons_cons, List.map_cons, List.sum_cons]
          have ha := hl a (.head _)
          have h1 : ws.getLastD 0 ≤ a * ws.getLastD 0 := by have := Int.mul_le_mul_of_nonneg_right ha.1 hB; (first | lia | omega)
          have hub' : ∀ y ∈ r.reverse, 1 ≤ y ∧ y ≤ ws.getLastD 0 := fun y hy => hub y (by rw [hrv]; exact .tail _ hy)
          have hrest := zipSum_bounds (ws.getLastD 0) hB (b :: ls) r.reverse (fun x hx => hl x (.tail _ hx)) hub'
          have hwl : ws.length = r.length + 1 := by have := congrArg List.length hr; simpa using this
          by_cases e : r.length = 0
          · rw [if_pos (by simp only [List.length_cons]; (first | lia | omega))]
            (first | lia | omega)
          · have := hrest.2.2 (by simp) (by simp; (first | lia | omega))
            split <;> (first | lia | omega)
      · unfold wRec wSum
        have h9 : (lims.length : Int) * (9 * ws.getLastD 0) ≤ 3 * (9 * ws.getLastD 0) := Int.mul_le_mul_of_nonneg_right (by (first | lia | omega)) (by (first | lia | omega))
        split <;> (first | lia | omega)
    refine ⟨by simp, ?_, ?_, ?_, ?_⟩
    · rw [getLastD_snoc]; simp; (first | lia | omega)
    · intro x hx
      rcases List.mem_append.mp hx with h | h
      · exact ge x h
      · rw [List.mem_singleton.mp h]; (first | lia | omega)
    · intro x hx
      rw [getLastD_snoc]
      rcases List.mem_append.mp hx with h | h
      · have := le x h; (first | lia | omega)
      · rw [List.mem_singleton.mp h]; exact Int.le_refl _
    · rw [getLastD_snoc]; exact hrec.2
theorem wts_grow {lims ws : List Int} (hl : ∀ x ∈ lims, 1 ≤ x ∧ x ≤ 9) (h2 : 2 ≤ lims.length) (h3 : lims.length ≤ 3) (W : Wts lims ws) (hlt : ws.getLastD 0 < 100000) : ws.getLastD 0 < wRec lims ws := by
  have h1 := wts_facts hl h2 h3 W
  have h2' := wts_facts hl h2 h3 (W.next hlt)
  have hl1 := h2'.le (ws.getLastD 0) (by obtain ⟨r, hr⟩ := last_eq h1.pos; exact List.mem_append.mpr (.inl (by rw [hr, getLastD_snoc]; simp)))
  rw [getLastD_snoc] at hl1
  obtain ⟨pos, len, ge, le, top⟩ := h1
  obtain ⟨r, hr⟩ := last_eq pos
  have hub : ∀ y ∈ ws.reverse, 1 ≤ y ∧ y ≤ ws.getLastD 0 := fun y hy => ⟨ge y (List.mem_reverse.mp hy), le y (List.mem_reverse.mp hy)⟩
  have hB : 0 ≤ ws.getLastD 0 := by (first | lia | omega)
  unfold wRec wSum
  match lims, h2, hl with
  | a :: b :: ls, _, hl =>
    have hrv : ws.reverse = ws.getLastD 0 :: r.reverse := by
      have := congrArg List.reverse hr
      simpa using this
    rw [hrv]
    simp only [List.zip_cons_cons, List.map_cons, List.sum_cons]
    have ha := hl a (.head _)
    have h1 : ws.getLastD 0 ≤ a * ws.getLastD 0 := by have := Int.mul_le_mul_of_nonneg_right ha.1 hB; (first | lia | omega)
    have hub' : ∀ y ∈ r.reverse, 1 ≤ y ∧ y ≤ ws.getLastD 0 := fun y hy => hub y (by rw [hrv]; exact .tail _ hy)
    have hrest := zipSum_bounds (ws.getLastD 0) hB (b :: ls) r.reverse (fun x hx => hl x (.tail _ hx)) hub'
    have hwl : ws.length = r.length + 1 := by have := congrArg List.length hr; simpa using this
    by_cases e : r.length = 0
    · rw [if_pos (by simp only [List.length_cons]; (first | lia | omega))]
      (first | lia | omega)
    · have := hrest.2.2 (by simp) (by simp; (first | lia | omega))
      split <;> (first | lia | omega)
end Mine
end
section
namespace Mine
/-- a mark that the walk has no rule for: it stops there -/
def Hold (P : Prop) : Prop := P
theorem hold {P : Prop} (h : Hold P) : P := h
theorem unhold {P : Prop} (h : P) : Hold P := h

/-- a mark ahead of the assignment to one name -/
theorem at_asn {M : Model} {A : Around} {Q : Flow → Shared → Prop} {E : Value → Shared → Prop} {s : Shared} (x : String) {p q : Pos} {v : PySem.Expr} {r : List Stmt} {env : Env} (h : Hold (wpAny M A (execs (.Assign [.Name (Str.ofString x) p] v q :: r) env) Q E s)) :
    wpAny M A (execs (.Assign [.Name (Str.ofString x) p] v q :: r) env) Q E s := h
theorem rm {d k j m : Nat} (h : d + m < k) (e : Nat.ble j m = true) : d + j < k := Nat.lt_of_le_of_lt (Nat.add_le_add_left (Nat.le_of_ble_eq_true e) d) h
/-- what is left of a block, by name: a short word for the walk's terms -/
@[reducible] def Nx (M : Model) (A : Around) (rest : List Stmt) (env : Env) (Q : Flow → Shared → Prop) (E : Value → Shared → Prop) : Flow → Shared → Prop :=
  fun f s' => match f with | .next => wpAny M A (execs rest env) Q E s' | f => Q f s'
theorem execs_nx {M : Model} {A : Around} {st : Stmt} {rest : List Stmt} {env : Env} {Q : Flow → Shared → Prop} {E : Value → Shared → Prop} {s : Shared} (h : wpAny M A (exec st env) (Nx M A rest env Q E) E s) : wpAny M A (execs (st :: rest) env) Q E s :=
  wpAny_execs_cons h

theorem enter {prog : Program} {w : World} {A : Around} {Q E : Value → Shared → Prop} {s : Shared} {K : Frag} {g : Heap} {p : Program} {loose : List Str} {mean : ExcName → Option Value} {mg mb : Str → Option Value}
    {name qual : Str} {params : Arguments} {body : List Stmt} {scope : Scope} {dV kV doc pm cdv ct oc : Value} {an od : Option Addr} {osl : Array (Option Value)} {f : Addr} {args : List Value} {kw : List (Str × Value)} {binds : List (Str × Value)}
    (X : K.In g) (T : Top p loose mean mg mb g) (hk : ∀ b o, g.get? b = some o → s.heap.get? b = some o) (hsz : g.objs.size ≤ s.heap.objs.size)
    (ho : K.lookup f = some ⟨oc, od, .func (fnOf name qual params body scope dV kV doc pm an cdv ct), osl⟩) (hcd : codeIn K cdv qual = true)
    (hroom : A.depth < recursionLimit)
    (hbind : BindsTo s (fnOf name qual params body scope dV kV doc pm an cdv ct) ⟨args, kw⟩ binds) (hloc : ∀ y ∈ binds, scope.names.lookup y.1 = some .local)
    (hco : scope.isCoroutine = false) (hgen : scope.isGenerator = false) (hkf : scope.kind = .function)
    (hcell : ∀ x ∈ scope.names, x.2 ≠ .cell)
    (h : ∀ L h₁, L = s.heap.objs.size → Fr g L h₁ (fun y => binds.reverse.lookup y) → (∀ b o, s.heap.get? b = some o → h₁.get? b = some o) →
      wpAny (model prog w) (A.deeper (envOf qual scope L f cdv)) (execs body (envOf qual scope L f cdv))
        (fun fl s' => Q (match fl with | .ret v => v | _ => .none) s') (fun _ _ => False)
        { s with heap := h₁, toks := s.toks + binds.length }) :
    wpAny (model prog w) A (call (.ref f) args kw) Q E s := by
  have X' : K.In s.heap := X.keeps hk
  refine wpAny_call (codeAny_call_def (fd := fnOf name qual params body scope dV kV doc pm an cdv ct) (body := body) (binds := binds) hroom (X' _ _ ho) rfl (T.nolimit.keeps hk) (codeRec_of X' hcd) rfl hbind hcell hloc (fun h₁ hns hk₁ => ?_) hco hgen hkf)
  refine wpAny_mono (h s.heap.objs.size h₁ rfl ⟨hns, fun b o e => hk₁ b o (hk b o e), hsz⟩ hk₁) (fun _ _ x => x) (fun _ _ x => x.elim)

end Mine
namespace Mine
section
variable {g h h' : Heap} {L a : Addr} {m : Str → Option Value} {news : List (Addr × Obj)}
theorem hide_keep (hk : ∀ b o, (g.hide a).get? b = some o → h.get? b = some o) : ∀ b o, (g.hide a).get? b = some o → (h.hide a).get? b = some o := by
  intro b o e
  have hb : b ≠ a := by
    intro q
    rw [q, Heap.hide_self] at e
    cases e
  rw [Heap.hide_ne _ hb]
  exact hk b o e
theorem fr_after (F : Fr g L h m) (hne : a ≠ L) (hg : g.get? a = none) (hk : ∀ b o, (h.hide a).get? b = some o → h'.get? b = some o) : Fr g L h' m := by
  obtain ⟨⟨oL, a1, a2, hL, a3⟩, keep, above⟩ := F
  refine ⟨⟨oL, a1, a2, hk _ _ ?_, a3⟩, fun b o e => hk _ _ ?_, above⟩
  · rw [Heap.hide_ne _ (Ne.symm hne)]; exact hL
  · rw [Heap.hide_ne _ (fun q => by rw [q, hg] at e; cases e)]; exact keep _ _ e
theorem news_after (N : News g L h news) (hn : ∀ p ∈ news, p.1 ≠ a) (hk : ∀ b o, (h.hide a).get? b = some o → h'.get? b = some o) : News g L h' news :=
  fun p hp => ⟨hk _ _ (by rw [Heap.hide_ne _ (hn p hp)]; exact (N p hp).1), (N p hp).2⟩
theorem news_put {o o' : Obj} (N : News g L h ((a, o) :: news)) (hn : ∀ p ∈ news, p.1 ≠ a) (hk : ∀ b o, (h.hide a).get? b = some o → h'.get? b = some o) (he : h'.get? a = some o') : News g L h' ((a, o') :: news) := by
  intro p hp
  rcases List.mem_cons.mp hp with rfl | hp
  · exact ⟨he, (N _ (.head _)).2⟩
  · exact news_after (fun q hq => N q (.tail _ hq)) hn hk p hp
theorem fr_keep (F : Fr g L h m) (hk : ∀ b o, h.get? b = some o → h'.get? b = some o) : Fr g L h' m := by
  obtain ⟨⟨oL, a1, a2, hL, a3⟩, keep, above⟩ := F
  exact ⟨⟨oL, a1, a2, hk _ _ hL, a3⟩, fun b o e => hk _ _ (keep _ _ e), above⟩
theorem news_keep (N : News g L h news) (hk : ∀ b o, h.get? b = some o → h'.get? b = some o) : News g L h' news :=
  fun p hp => ⟨hk _ _ (N p hp).1, (N p hp).2⟩
theorem hide_news {o : Obj} (ha : h.get? a = some o) (hk : ∀ b o, h.get? b = some o → h'.get? b = some o) (hL : L = h.objs.size) : News (h.hide a) L h' [(a, o)] := by
  intro q hq
  obtain rfl := List.mem_singleton.mp hq
  refine ⟨hk _ _ ha, ?_, Heap.hide_self _ _⟩
  exact Nat.ne_of_lt (hL ▸ Heap.lt_size ha)
theorem ne_new {D b : Addr} {o : Obj} (hD : h.get? D = none) (e : h.get? b = some o) : @Ne Nat D b := fun q => by
  have q' : D = b := q
  rw [q', e] at hD
  cases hD
theorem news_new {D : Addr} {o : Obj} (F : Fr g L h m) (N : News g L h news) (hk : ∀ b o, h.get? b = some o → h'.get? b = some o) (hD : h.get? D = none) (hg : h'.get? D = some o) : News g L h' ((D, o) :: news) := by
  intro q hq
  rcases List.mem_cons.mp hq with rfl | hq
  · refine ⟨hg, ?_, ?_⟩
    · obtain ⟨oL, _, _, hL, _⟩ := F.ns
      exact ne_new hD hL
    · cases e : g.get? D with
      | none => rfl
      | some o' => have := F.keep _ _ e; rw [hD] at this; cases this
  · exact news_keep N hk q hq
end
end Mine
end
section
namespace Mine
def gStep (a : Int × Int) (x : Int) : Int × Int := (a.1 * 16 + Int.fdiv a.2 x, Int.fmod a.2 x)
def greedyI (n : Int) (ws : List Int) : Int := (ws.reverse.foldl gStep (0, n)).1
theorem gStep_snoc {pre : List Int} {a b c d x n : Int} (h : (a, b) = pre.foldl gStep (0, n)) (hc : c = a * 16 + Int.fdiv b x) (hd : d = Int.fmod b x) : (c, d) = (pre ++ [x]).foldl gStep (0, n) := by
  rw [List.foldl_append, ← h, hc, hd]; rfl

theorem greedy_spec {w : World} {dp un : Nat} {fr : Option (List Env)} {gd : Option (List Code)} {p : Program} {loose : List Str} {mean : ExcName → Option Value} {mg mb : Str → Option Value} {s : Shared} {l : Addr} {vs : List Value} {ws : List Int} {n : Int} {tn : Tok} {Q E : Value → Shared → Prop} :
   (hd.heap_39 w.params).In s.heap → Top p loose mean mg mb s.heap → dp + 5 < recursionLimit → un + 20 < cLine →
   s.heap.IsList l vs.toArray → IntsAre vs ws → ws.length ≤ 3000000 → (∀ x ∈ ws, 0 < x ∧ x < 1073741824) →
   (∀ t h' tk', (∀ b o, s.heap.get? b = some o → h'.get? b = some o) → Q (.int (greedyI n ws) t) { s with heap := h', toks := tk' }) →
   wpAny (model PySem.Challenge.rw_in0246_01.row.prog w) ⟨none, dp, fr, gd, un⟩ (call (.ref 123) [.int n tn, .ref l]) Q E s := by
  k_with_none
  k_fill
  (k_with "exec For Name Subscript cons nil" => (k_here; (rename Fr _ _ _ _ => lF'); (with_unfolding_all refine' For_invVF lF' ?k1 ?k2 ?_; (case k1 => exact rfl); (case k2 => exact rfl); k_whole)))
  (k_with "execs cons" => (first | (k_here; k_gentoks) | ((with_reducible refine Mine.execs_nx ?_); (try dsimp only))))
  (k_with "WhlPost" => dsimp only [Mine.Nx])
  (k_with "KswPost" => dsimp only [Mine.Nx])
  (k_with "InvPostN" => dsimp only [Mine.Nx])
  (k_with "UnrPost" => dsimp only [Mine.Nx])
  (k_with "storeName" => dsimp only)
  intro X T hdp hun hl hv hlen hpos hret
  k_dflt ((refine' Mine.enter (by assumption) (by assumption) ?ck ?cs ?ho ?hcd ?hroom ?hbind ?hloc ?c2 ?c3 ?c4 ?c5 ?_; (case ho => k_is); (case hcd => k_is); (case hbind => exact BindsTo.of_eq rfl); (case hloc => exact locs rfl); (case c2 => exact rfl); (case c3 => exact rfl); (case c4 => exact rfl); (case c5 => decide)))
  case ck => exact fun _ _ e => e
  case cs => exact Nat.le_refl _
  case hroom => exact Mine.rm (j := 0) hdp rfl
  intro L h₁ hL F hk
  have N : News s.heap L h₁ [] := News.nil
  clear hL hk
  (try dsimp only)
  (try k_fold)
  (k_with "pyIter ref" => k_state (fun pre a b => (a, b) = pre.foldl gStep (0, n)) "writing" "number")
  (k_with "state" => first | rfl | exact gStep_snoc kInv rfl rfl)
  k_steps
  · have hp0 := hpos kN (List.mem_reverse.mp (by assumption))
    k_steps
  · have e := congrArg Prod.fst kInv
    dsimp only at e
    rw [e]
    exact hret _ _ _ kFr.keep
end Mine
end
section
namespace Mine
def vStep (a : Int × Int) (x : Int) : Int × Int := (a.1 + Int.fmod a.2 16 * x, Int.fdiv a.2 16)
def valueI (n : Int) (ws : List Int) : Int := (ws.foldl vStep (0, n)).1
theorem vStep_snoc {pre : List Int} {a b c d x n : Int} (h : (a, b) = pre.foldl vStep (0, n)) (hc : c = a + Int.fmod b 16 * x) (hd : d = Int.fdiv b 16) : (c, d) = (pre ++ [x]).foldl vStep (0, n) := by
  rw [List.foldl_append, ← h, hc, hd]; rfl

theorem value_spec {w : World} {dp un : Nat} {fr : Option (List Env)} {gd : Option (List Code)} {p : Program} {loose : List Str} {mean : ExcName → Option Value} {mg mb : Str → Option Value} {s : Shared} {l : Addr} {vs : List Value} {ws : List Int} {n : Int} {tn : Tok} {Q E : Value → Shared → Prop} :
   (hd.heap_39 w.params).In s.heap → Top p loose mean mg mb s.heap → dp + 5 < recursionLimit → un + 20 < cLine →
   s.heap.IsList l vs.toArray → IntsAre vs ws → ws.length ≤ 3000000 → (∀ x ∈ ws, 0 < x ∧ x < 1073741824) →
   (∀ t h' tk', (∀ b o, s.heap.get? b = some o → h'.get? b = some o) → Q (.int (valueI n ws) t) { s with heap := h', toks := tk' }) →
   wpAny (model PySem.Challenge.rw_in0246_01.row.prog w) ⟨none, dp, fr, gd, un⟩ (call (.ref 130) [.int n tn, .ref l]) Q E s := by
  k_with_none
  k_fill
  (k_with "exec For Name Subscript cons nil" => (k_here; (rename Fr _ _ _ _ => lF'); (with_unfolding_all refine' For_invVF lF' ?k1 ?k2 ?_; (case k1 => exact rfl); (case k2 => exact rfl); k_whole)))
  (k_with "execs cons" => (first | (k_here; k_gentoks) | ((with_reducible refine Mine.execs_nx ?_); (try dsimp only))))
  (k_with "WhlPost" => dsimp only [Mine.Nx])
  (k_with "KswPost" => dsimp only [Mine.Nx])
  (k_with "InvPostN" => dsimp only [Mine.Nx])
  (k_with "UnrPost" => dsimp only [Mine.Nx])
  (k_with "storeName" => dsimp only)
  intro X T hdp hun hl hv hlen hpos hret
  k_dflt ((refine' Mine.enter (by assumption) (by assumption) ?ck ?cs ?ho ?hcd ?hroom ?hbind ?hloc ?c2 ?c3 ?c4 ?c5 ?_; (case ho => k_is); (case hcd => k_is); (case hbind => exact BindsTo.of_eq rfl); (case hloc => exact locs rfl); (case c2 => exact rfl); (case c3 => exact rfl); (case c4 => exact rfl); (case c5 => decide)))
  case ck => exact fun _ _ e => e
  case cs => exact Nat.le_refl _
  case hroom => exact Mine.rm (j := 0) hdp rfl
  intro L h₁ hL F hk
  have N : News s.heap L h₁ [] := News.nil
  clear hL hk
  (try dsimp only)
  (try k_fold)
  (k_with "pyIter ref" => k_state (fun pre a b => (a, b) = pre.foldl vStep (0, n)) "value" "writing")
  (k_with "state" => first | rfl | exact vStep_snoc kInv rfl rfl)
  k_steps
  · have e := congrArg Prod.fst kInv
    dsimp only at e
    rw [e]
    exact hret _ _ _ kFr.keep
end Mine
end
section
namespace Mine
def hexF : Nat → Nat → List Nat
  | 0, _ => []
  | k + 1, n => if n = 0 then [] else hexF k (n / 16) ++ [n % 16]
theorem hexF_mono : ∀ (k j n : Nat), n < 16 ^ k → hexF (k + j) n = hexF k n
  | 0, j, n, h => by
    have : n = 0 := by simpa using h
    subst this
    cases j <;> simp [hexF]
  | k + 1, j, n, h => by
    rw [Nat.add_right_comm]
    show (if n = 0 then [] else hexF (k + j) (n / 16) ++ [n % 16]) = if n = 0 then [] else hexF k (n / 16) ++ [n % 16]
    rw [hexF_mono k j (n / 16) (by rw [Nat.pow_succ] at h; (first | lia | omega))]
/-- the figures of n to the base 16, the highest first -/
def hexL (n : Nat) : List Nat := hexF 16 n
theorem hexL_zero : hexL 0 = [] := rfl
theorem hexL_step {n : Nat} (h0 : n ≠ 0) (h : n < 16 ^ 16) : hexL n = hexL (n / 16) ++ [n % 16] := by
  show (if n = 0 then [] else hexF 15 (n / 16) ++ [n % 16]) = hexF (15 + 1) (n / 16) ++ [n % 16]
  rw [if_neg h0, hexF_mono 15 1 (n / 16) (by (first | lia | omega))]
def apB (n : Nat) : Array UInt8 := ((hexL n).map fun d => UInt8.ofNat (65 + d)).toArray

theorem hexF_len : ∀ k n : Nat, (hexF k n).length ≤ k
  | 0, _ => Nat.le_refl _
  | k + 1, n => by
    show (if n = 0 then [] else hexF k (n / 16) ++ [n % 16]).length ≤ k + 1
    split
    · simp
    · have := hexF_len k (n / 16)
      simp
      (first | lia | omega)
theorem apB_size (n : Nat) : (apB n).size ≤ 16 := by
  have := hexF_len 16 n
  simpa [apB, hexL] using this
theorem ap_size {a n : Nat} {b : Array UInt8} (h : apB a ++ b = apB n) : b.size ≤ 16 := by
  have h1 := apB_size n
  rw [← h, Array.size_append] at h1
  (first | lia | omega)
theorem apB_step {n : Nat} (h0 : n ≠ 0) (h : n < 16 ^ 16) : apB n = apB (n / 16) ++ #[UInt8.ofNat (65 + n % 16)] := by
  unfold apB
  rw [hexL_step h0 h]
  simp
theorem ap_next {a n : Int} {b : Array UInt8} (h0 : 0 ≤ a) (h1 : a < 16 ^ 16) (hn : a ≠ 0) (h : apB a.toNat ++ b = apB n.toNat) :
    0 ≤ Int.fdiv a 16 ∧ Int.fdiv a 16 < 16 ^ 16 ∧ apB (Int.fdiv a 16).toNat ++ (#[UInt8.ofNat (65 + (Int.fmod a 16).toNat)] ++ b) = apB n.toNat := by
  obtain ⟨k, rfl⟩ := Int.eq_ofNat_of_zero_le h0
  have e1 : Int.fdiv (k : Int) 16 = ((k / 16 : Nat) : Int) := by rw [Int.fdiv_eq_ediv_of_nonneg _ (by (first | lia | omega))]; (first | lia | omega)
  have e2 : Int.fmod (k : Int) 16 = ((k % 16 : Nat) : Int) := by rw [Int.fmod_eq_emod_of_nonneg _ (by (first | lia | omega))]; (first | lia | omega)
  have hk : k ≠ 0 := by (first | lia | omega)
  have hk' : k < 16 ^ 16 := by (first | lia | omega)
  rw [e1, e2]
  refine ⟨by (first | lia | omega), by (first | lia | omega), ?_⟩
  rw [← h, Int.toNat_natCast, Int.toNat_natCast, Int.toNat_natCast, ← Array.append_assoc, ← apB_step hk hk']
theorem ap_less {a : Int} (h0 : 0 ≤ a) (hn : a ≠ 0) : (Int.fdiv a 16).toNat < a.toNat := by
  rw [Int.fdiv_eq_ediv_of_nonneg _ (by (first | lia | omega))]
  (first | lia | omega)
theorem ap_nn {a n : Int} {b : Array UInt8} (h : 0 ≤ a) (_ : apB a.toNat ++ b = apB n.toNat) (_ : a < 16 ^ 16) : 0 ≤ a := h
theorem ap_done {a n : Int} {b : Array UInt8} (h : apB a.toNat ++ b = apB n.toNat) (h0 : a = 0) : b = apB n.toNat := by
  subst h0
  rw [← h]
  simp [apB, hexL_zero]
theorem ap_start {n : Int} (h0 : 0 ≤ n) (h1 : n < 16 ^ 16) : 0 ≤ (if n < 0 then -n else n) ∧ (if n < 0 then -n else n) < 16 ^ 16 ∧ apB (if n < 0 then -n else n).toNat ++ (#[] : Array UInt8) = apB n.toNat := by
  rw [if_neg (by (first | lia | omega))]
  exact ⟨h0, h1, by simp⟩
theorem ap_pick (m : Int) (h0 : 0 ≤ m) (h1 : m < 16) : KBy.picked #[65, 66, 67, 68, 69, 70, 71, 72, 73, 74, 75, 76, 77, 78, 79, 80] (some m) (some (m + 1)) = #[UInt8.ofNat (65 + m.toNat)] := by
  have h : ∀ k : Fin 16, KBy.picked #[65, 66, 67, 68, 69, 70, 71, 72, 73, 74, 75, 76, 77, 78, 79, 80] (some (k.val : Int)) (some ((k.val : Int) + 1)) = #[UInt8.ofNat (65 + ((k.val : Int)).toNat)] := by decide +kernel
  have := h ⟨m.toNat, by (first | lia | omega)⟩
  rwa [show ((m.toNat : Nat) : Int) = m by (first | lia | omega)] at this
theorem ap_pick2 {a : Int} (_ : a ≠ 0) : KBy.picked #[65, 66, 67, 68, 69, 70, 71, 72, 73, 74, 75, 76, 77, 78, 79, 80] (some (Int.fmod a 16)) (some (Int.fmod a 16 + 1)) = #[UInt8.ofNat (65 + (Int.fmod a 16).toNat)] :=
  ap_pick _ (Int.fmod_nonneg_of_pos _ (by (first | lia | omega))) (Int.fmod_lt_of_pos _ (by (first | lia | omega)))
theorem int2ap_spec {w : World} {dp un : Nat} {fr : Option (List Env)} {gd : Option (List Code)} {p : Program} {loose : List Str} {mean : ExcName → Option Value} {mg mb : Str → Option Value} {s : Shared} {n : Int} {tn : Tok} {Q E : Value → Shared → Prop} :
   (hd.heap_39 w.params).In s.heap → Top p loose mean mg mb s.heap → dp + 5 < recursionLimit → un + 20 < cLine →
   0 ≤ n → n < 16 ^ 16 →
   (∀ t h' tk', (∀ b o, s.heap.get? b = some o → h'.get? b = some o) → Q (.bytes (apB n.toNat) t) { s with heap := h', toks := tk' }) →
   wpAny (model PySem.Challenge.rw_in0246_01.row.prog w) ⟨none, dp, fr, gd, un⟩ (call (.ref 38) [.int n tn]) Q E s := by
  k_with_none
  k_fill
  (k_with "exec For Name Subscript cons nil" => (k_here; (rename Fr _ _ _ _ => lF'); (with_unfolding_all refine' For_invVF lF' ?k1 ?k2 ?_; (case k1 => exact rfl); (case k2 => exact rfl); k_whole)))
  (k_with "execs cons" => (first | (k_here; k_gentoks) | ((with_reducible refine Mine.execs_nx ?_); (try dsimp only))))
  (k_with "WhlPost" => dsimp only [Mine.Nx])
  (k_with "KswPost" => dsimp only [Mine.Nx])
  (k_with "InvPostN" => dsimp only [Mine.Nx])
  (k_with "UnrPost" => dsimp only [Mine.Nx])
  (k_with "storeName" => dsimp only)
  intro X T hdp hun hn0 hn1 hret
  k_dflt ((refine' Mine.enter (by assumption) (by assumption) ?ck ?cs ?ho ?hcd ?hroom ?hbind ?hloc ?c2 ?c3 ?c4 ?c5 ?_; (case ho => k_is); (case hcd => k_is); (case hbind => exact BindsTo.of_eq rfl); (case hloc => exact locs rfl); (case c2 => exact rfl); (case c3 => exact rfl); (case c4 => exact rfl); (case c5 => decide)))
  case ck => exact fun _ _ e => e
  case cs => exact Nat.le_refl _
  case hroom => exact Mine.rm (j := 0) hdp rfl
  intro L h₁ hL F hk
  have N : News s.heap L h₁ [] := News.nil
  clear hL hk
  (try dsimp only)
  (try k_fold)
  (k_with "state" => exact ap_start hn0 hn1)
  (k_with "exec While Name cons nil" => k_while (fun _ a b => 0 ≤ a ∧ a < 16 ^ 16 ∧ apB a.toNat ++ b = apB n.toNat) (fun _ a b => a.toNat) "num" "val")
  k_steps
  · rename (apB _ ++ _ = apB _) => h4
    rename (_ ≠ (0 : Int)) => h0
    rename (_ < (16 : Int) ^ 16) => h2
    have h1 := ap_nn (by assumption) h4 h2
    have h3 := ap_size h4
    rename Fr _ _ _ _ => F'
    rename News _ _ _ _ => N'
    refine KBc.slice_K (s := ⟨_, _, _, _, _⟩) F' N' rfl (by constructor) (by constructor) (by decide) ?_
    intro h9 t9 k9 F9 N9 e9
    clear e9
    have e8 := ap_pick2 h0
    generalize hP : KBy.picked _ _ _ = P
    have hP' := hP.symm.trans e8
    subst hP'
    clear hP e8 F' N'
    (k_with "state" => exact ap_next h1 h2 h0 h4)
    (k_with "measure" => exact ap_less h1 h0)
    k_steps
  · rename (apB _ ++ _ = apB _) => h4
    rename (_ = (0 : Int)) => h0
    have e := ap_done h4 h0
    subst e
    exact hret _ _ _ kFr.keep
end Mine
end
section
namespace Mine
theorem par_eq {x : Int} (h : 0 < x) : Int.fdiv (x - 1) (2 ^ Int.toNat 1) = (((x.toNat - 1) / 2 : Nat) : Int) := by
  show Int.fdiv (x - 1) 2 = _
  rw [Int.fdiv_eq_ediv_of_nonneg _ (by decide)]
  have e : x - 1 = ((x.toNat - 1 : Nat) : Int) := by (first | lia | omega)
  rw [e]
  rfl
theorem sd_meas {q : Int} (h : 0 < q) : (((q.toNat - 1) / 2 : Nat) : Int).toNat < q.toNat := par_lt (c := q.toNat) (by (first | lia | omega))

theorem sd_word0 {ns : List Int} {pos : Int} (h0 : 0 ≤ pos) (h1 : pos < ns.length) (ho : OrdBut ns pos.toNat) (hg : Grand ns pos.toNat) :
    ns.length = ns.length ∧ 0 ≤ pos ∧ pos < ns.length ∧ SdInv ns (ns.getD pos.toNat 0) ns pos.toNat := ⟨rfl, h0, h1, sd_start (by (first | lia | omega)) ho hg⟩
theorem sd_word1 {ns h : List Int} {x q : Int} (hl : h.length = ns.length) (h0 : 0 < q) (hq : q < ns.length) (I : SdInv ns x h q.toNat) (hx : x < h.getD (((q.toNat - 1) / 2 : Nat) : Int).toNat 0) :
    (h.set q.toNat (h.getD (((q.toNat - 1) / 2 : Nat) : Int).toNat 0)).length = ns.length ∧ 0 ≤ (((q.toNat - 1) / 2 : Nat) : Int) ∧ (((q.toNat - 1) / 2 : Nat) : Int) < ns.length ∧
      SdInv ns x (h.set q.toNat (h.getD (((q.toNat - 1) / 2 : Nat) : Int).toNat 0)) (((q.toNat - 1) / 2 : Nat) : Int).toNat := by
  refine ⟨by simpa using hl, Int.natCast_nonneg _, Int.ofNat_lt.mpr (Nat.lt_trans (par_lt (by (first | lia | omega))) (by (first | lia | omega))), ?_⟩
  rw [Int.toNat_natCast] at hx ⊢
  exact sd_step I (by (first | lia | omega)) hx
theorem sd_word2 {ns h : List Int} {x q : Int} (I : SdInv ns x h q.toNat) (hx : ¬ x < h.getD (((q.toNat - 1) / 2 : Nat) : Int).toNat 0) : IsHp (h.set q.toNat x) := by
  rw [Int.toNat_natCast] at hx
  exact sd_end1 I hx
theorem siftdown_spec {w : World} {dp un : Nat} {fr : Option (List Env)} {gd : Option (List Code)} {p : Program} {loose : List Str} {mean : ExcName → Option Value} {mg mb : Str → Option Value} {s : Shared} {a : Addr} {vs : List Value} {ns : List Int} {n : Nat} {pos : Int} {t0 tn : Tok} {Q E : Value → Shared → Prop} :
   (hd.heap_39 w.params).In (s.heap.hide a) → Top p loose mean mg mb (s.heap.hide a) → dp + 5 < recursionLimit → un + 20 < cLine →
   s.heap.get? a = some (listOf vs.toArray n) → IntsAre vs ns → ns.length ≤ 1000000 → 0 ≤ pos → pos < ns.length → OrdBut ns pos.toNat → Grand ns pos.toNat →
   (∀ vs' ns' n' h' tk', (∀ b o, (s.heap.hide a).get? b = some o → h'.get? b = some o) → h'.get? a = some (listOf vs'.toArray n') → IntsAre vs' ns' → ns'.Perm ns → IsHp ns' → Q .none { s with heap := h', toks := tk' }) →
   wpAny (model PySem.Challenge.rw_in0246_01.row.prog w) ⟨none, dp, fr, gd, un⟩ (call (.ref 104) [.ref a, .int 0 t0, .int pos tn]) Q E s := by
  k_with_none
  k_fill
  (k_with "exec For Name Subscript cons nil" => (k_here; (rename Fr _ _ _ _ => lF'); (with_unfolding_all refine' For_invVF lF' ?k1 ?k2 ?_; (case k1 => exact rfl); (case k2 => exact rfl); k_whole)))
  (k_with "execs cons" => (first | (k_here; k_gentoks) | ((with_reducible refine Mine.execs_nx ?_); (try dsimp only))))
  (k_with "WhlPost" => dsimp only [Mine.Nx])
  (k_with "KswPost" => dsimp only [Mine.Nx])
  (k_with "InvPostN" => dsimp only [Mine.Nx])
  (k_with "UnrPost" => dsimp only [Mine.Nx])
  (k_with "storeName" => dsimp only)
  intro X T hdp hun ha hv hlen hp0 hp1 hOrd hGr hret
  k_dflt ((refine' Mine.enter (by assumption) (by assumption) ?ck ?cs ?ho ?hcd ?hroom ?hbind ?hloc ?c2 ?c3 ?c4 ?c5 ?_; (case ho => k_is); (case hcd => k_is); (case hbind => exact BindsTo.of_eq rfl); (case hloc => exact locs rfl); (case c2 => exact rfl); (case c3 => exact rfl); (case c4 => exact rfl); (case c5 => decide)))
  case ck => exact fun _ _ e => Heap.of_hide e
  case cs => exact Nat.le_of_eq (Heap.hide_size _ _)
  case hroom => exact Mine.rm (j := 0) hdp rfl
  intro L h₁ hL F hk
  have N := hide_news ha hk hL
  clear hL hk
  (try dsimp only)
  (try k_fold)
  (k_with "state" => first | exact sd_word0 hp0 hp1 hOrd hGr | exact sd_word1 (by assumption) (by assumption) (by assumption) (by assumption) (by assumption))
  (k_with "measure" => exact sd_meas (by assumption))
  (k_with "exec While Compare cons nil" => k_while (fun _ (h : List Int) (q : Int) => h.length = ns.length ∧ 0 ≤ q ∧ q < ns.length ∧ SdInv ns (ns.getD pos.toNat 0) h q.toNat) (fun _ (h : List Int) (q : Int) => q.toNat) "heap" "pos")
  k_steps
  · rename ((0 : Int) < _) => h0
    rename Fr _ _ _ _ => F'
    rw [par_eq h0] at F' ⊢
    k_steps
    rename Fr _ _ _ _ => F'
    rename News _ _ _ _ => N'
    rename SdInv _ _ _ _ => I
    exact hret _ _ _ _ _ F'.keep (News.get N' (.head _)) (by assumption) I.perm (sd_word2 I (by assumption))
  · rename Fr _ _ _ _ => F'
    rename News _ _ _ _ => N'
    rename SdInv _ _ _ _ => I
    exact hret _ _ _ _ _ F'.keep (News.get N' (.head _)) (by assumption) I.perm (sd_end0 I (by (first | lia | omega)))
end Mine
end
section
namespace Mine
theorem su_word0 {ns : List Int} (h0 : 0 < ns.length) (ho : ∀ i, 0 < i → i < ns.length → (i - 1) / 2 ≠ 0 → ns.getD ((i - 1) / 2) 0 ≤ ns.getD i 0) :
    ns.length = ns.length ∧ (0 : Int) ≤ 0 ∧ (0 : Int) < ns.length ∧ (2 * 0 + 1 : Int) = 2 * 0 + 1 ∧ SuInv ns (ns.getD 0 0) ns (0 : Int).toNat := ⟨rfl, by (first | lia | omega), by (first | lia | omega), rfl, su_start h0 ho⟩
theorem measL {n : Nat} {q c : Int} (hc : c = 2 * q + 1) (h0 : 0 ≤ q) (hn : c < n) : n - c.toNat < n - q.toNat := by
  subst hc
  (first | lia | omega)
theorem measR {n : Nat} {q c : Int} (hc : c = 2 * q + 1) (h0 : 0 ≤ q) (hn : c + 1 < n) : n - (c + 1).toNat < n - q.toNat := by
  subst hc
  (first | lia | omega)
theorem two_nat {q c : Int} (hc : c = 2 * q + 1) (h0 : 0 ≤ q) : c.toNat = 2 * q.toNat + 1 ∧ (c + 1).toNat = 2 * q.toNat + 2 := by
  subst hc
  (first | lia | omega)
theorem half_one (n : Nat) : (2 * n + 1 - 1) / 2 = n := Nat.mul_div_cancel_left n (by decide)
theorem half_two (n : Nat) : (2 * n + 2 - 1) / 2 = n := by
  show (2 * n + 1) / 2 = n
  (first | lia | omega)
theorem half_of {d n : Nat} (h0 : 0 < d) (h : (d - 1) / 2 = n) : d = 2 * n + 1 ∨ d = 2 * n + 2 := by (first | lia | omega)
theorem su_wordR {ns h : List Int} {x q c : Int} (hl : h.length = ns.length) (h0 : 0 ≤ q) (hq : q < ns.length) (hc : c = 2 * q + 1) (I : SuInv ns x h q.toNat) (hcl : c < ns.length) (hr : c + 1 < ns.length) (hn : ¬ h.getD c.toNat 0 < h.getD (c + 1).toNat 0) :
    (h.set q.toNat (h.getD (c + 1).toNat 0)).length = ns.length ∧ 0 ≤ c + 1 ∧ c + 1 < ns.length ∧ 2 * (c + 1) + 1 = 2 * (c + 1) + 1 ∧ SuInv ns x (h.set q.toNat (h.getD (c + 1).toNat 0)) (c + 1).toNat := by
  obtain ⟨e1, e2⟩ := two_nat hc h0
  refine ⟨by simpa using hl, Int.le_add_one (by (first | lia | omega)), hr, rfl, ?_⟩
  rw [e1, e2] at hn
  rw [e2]
  have hb : 2 * q.toNat + 2 < ns.length := by
    rw [← e2]
    clear hn I e1 e2 hl
    (first | lia | omega)
  refine su_step I (Nat.succ_pos _) hb (half_two _) fun d hd0 hd hp => ?_
  rcases half_of hd0 hp with rfl | rfl
  · exact Int.not_lt.mp hn
  · exact Int.le_refl _
theorem su_wordL {ns h : List Int} {x q c : Int} (hl : h.length = ns.length) (h0 : 0 ≤ q) (hq : q < ns.length) (hc : c = 2 * q + 1) (I : SuInv ns x h q.toNat) (hcl : c < ns.length) (hn : c + 1 < ns.length → h.getD c.toNat 0 < h.getD (c + 1).toNat 0) :
    (h.set q.toNat (h.getD c.toNat 0)).length = ns.length ∧ 0 ≤ c ∧ c < ns.length ∧ 2 * c + 1 = 2 * c + 1 ∧ SuInv ns x (h.set q.toNat (h.getD c.toNat 0)) c.toNat := by
  obtain ⟨e1, e2⟩ := two_nat hc h0
  refine ⟨by simpa using hl, by (first | lia | omega), hcl, rfl, ?_⟩
  rw [e1, e2] at hn
  rw [e1]
  have hb : 2 * q.toNat + 1 < ns.length := by
    rw [← e1]
    clear hn I e1 e2 hl
    (first | lia | omega)
  refine su_step I (Nat.succ_pos _) hb (half_one _) fun d hd0 hd hp => ?_
  rcases half_of hd0 hp with rfl | rfl
  · exact Int.le_refl _
  · refine Int.le_of_lt (hn ?_)
    have : (c + 1).toNat < ns.length := e2 ▸ hd
    clear hn I e1 e2 hl hd hp
    (first | lia | omega)
theorem siftup_spec {w : World} {dp un : Nat} {fr : Option (List Env)} {gd : Option (List Code)} {p : Program} {loose : List Str} {mean : ExcName → Option Value} {mg mb : Str → Option Value} {s : Shared} {a : Addr} {vs : List Value} {ns : List Int} {n : Nat} {tn : Tok} {Q E : Value → Shared → Prop} :
   (hd.heap_39 w.params).In (s.heap.hide a) → Top p loose mean mg mb (s.heap.hide a) → dp + 10 < recursionLimit → un + 40 < cLine →
   s.heap.get? a = some (listOf vs.toArray n) → IntsAre vs ns → ns.length ≤ 1000000 → 0 < ns.length → (∀ i, 0 < i → i < ns.length → (i - 1) / 2 ≠ 0 → ns.getD ((i - 1) / 2) 0 ≤ ns.getD i 0) →
   (∀ vs' ns' n' h' tk', (∀ b o, (s.heap.hide a).get? b = some o → h'.get? b = some o) → h'.get? a = some (listOf vs'.toArray n') → IntsAre vs' ns' → ns'.Perm ns → IsHp ns' → Q .none { s with heap := h', toks := tk' }) →
   wpAny (model PySem.Challenge.rw_in0246_01.row.prog w) ⟨none, dp, fr, gd, un⟩ (call (.ref 111) [.ref a, .int 0 tn]) Q E s := by
  k_with_none
  k_fill
  (k_with "exec For Name Subscript cons nil" => (k_here; (rename Fr _ _ _ _ => lF'); (with_unfolding_all refine' For_invVF lF' ?k1 ?k2 ?_; (case k1 => exact rfl); (case k2 => exact rfl); k_whole)))
  (k_with "execs cons" => (first | (k_here; k_gentoks) | ((with_reducible refine Mine.execs_nx ?_); (try dsimp only))))
  (k_with "WhlPost" => dsimp only [Mine.Nx])
  (k_with "KswPost" => dsimp only [Mine.Nx])
  (k_with "InvPostN" => dsimp only [Mine.Nx])
  (k_with "UnrPost" => dsimp only [Mine.Nx])
  (k_with "storeName" => dsimp only)
  intro X T hdp hun ha hv hlen hp0 hOrd hret
  k_dflt ((refine' Mine.enter (by assumption) (by assumption) ?ck ?cs ?ho ?hcd ?hroom ?hbind ?hloc ?c2 ?c3 ?c4 ?c5 ?_; (case ho => k_is); (case hcd => k_is); (case hbind => exact BindsTo.of_eq rfl); (case hloc => exact locs rfl); (case c2 => exact rfl); (case c3 => exact rfl); (case c4 => exact rfl); (case c5 => decide)))
  case ck => exact fun _ _ e => Heap.of_hide e
  case cs => exact Nat.le_of_eq (Heap.hide_size _ _)
  case hroom => exact Mine.rm (j := 0) hdp rfl
  intro L h₁ hL F hk
  have N := hide_news ha hk hL
  clear hL hk
  (try dsimp only)
  (try k_fold)
  (k_with "exec While Compare cons nil" => refine hold ?_)
  k_steps
  refine unhold ?_
  (k_with "state" => first
    | exact su_word0 hp0 hOrd
    | exact su_wordR (by assumption) (by assumption) (by assumption) (by assumption) (by assumption) (by assumption) (by assumption) (by assumption)
    | exact su_wordL (by assumption) (by assumption) (by assumption) (by assumption) (by assumption) (by assumption) (fun _ => by assumption)
    | exact su_wordL (by assumption) (by assumption) (by assumption) (by assumption) (by assumption) (by assumption) (fun h => absurd h (by assumption)))
  (k_with "measure" => first | exact measL (by assumption) (by assumption) (by assumption) | exact measR (by assumption) (by assumption) (by assumption))
  k_while (fun _ (h : List Int) (q : Int) (c : Int) => h.length = ns.length ∧ 0 ≤ q ∧ q < ns.length ∧ c = 2 * q + 1 ∧ SuInv ns (ns.getD 0 0) h q.toNat) (fun _ (h : List Int) (q : Int) (c : Int) => ns.length - q.toNat) "heap" "pos" "childpos"
  k_steps
  rename Fr _ _ _ _ => F'
  rename News _ _ _ _ => N'
  rename SuInv _ _ _ _ => I
  rename (¬ _ < _) => hc
  rename (_ = 2 * _ + (1 : Int)) => he
  have hlt := I.lt
  have hse := su_end I (by (first | lia | omega))
  have hne := (N' _ (.head _)).2.1
  with_unfolding_all refine' siftdown_spec (X.keeps (hide_keep F'.keep)) (T.keeps (hide_keep F'.keep)) ?d ?u (News.get N' (.head _)) (by assumption) ?le (by assumption) ?lt hse.1 hse.2 ?_
  case d => (show dp + 1 + 5 < _; exact Mine.rm (j := 6) hdp rfl)
  case u => (show un + 3 + 20 < _; exact Mine.rm (j := 23) hun rfl)
  case le => (simp only [List.length_set]; (first | lia | omega))
  case lt => (simp only [List.length_set]; (first | lia | omega))
  intro vs9 ns9 n9 h9 tk9 hk9 hg9 hi9 hp9 hh9
  have F9 := fr_after F' hne (Heap.hide_self _ _) hk9
  refine wpAny_execs_nil ?_
  exact hret _ _ _ _ _ F9.keep hg9 hi9 (hp9.trans I.perm) hh9
end Mine
end
section
namespace Mine
theorem heappush_spec {w : World} {dp un : Nat} {fr : Option (List Env)} {gd : Option (List Code)} {p : Program} {loose : List Str} {mean : ExcName → Option Value} {mg mb : Str → Option Value} {s : Shared} {a : Addr} {vs : List Value} {ns : List Int} {n : Nat} {x : Int} {tn : Tok} {Q E : Value → Shared → Prop} :
   (hd.heap_39 w.params).In (s.heap.hide a) → Top p loose mean mg mb (s.heap.hide a) → dp + 10 < recursionLimit → un + 40 < cLine →
   s.heap.get? a = some (listOf vs.toArray n) → IntsAre vs ns → ns.length ≤ 900000 → IsHp ns →
   (∀ vs' ns' n' h' tk', (∀ b o, (s.heap.hide a).get? b = some o → h'.get? b = some o) → h'.get? a = some (listOf vs'.toArray n') → IntsAre vs' ns' → ns'.Perm (ns ++ [x]) → IsHp ns' → Q .none { s with heap := h', toks := tk' }) →
   wpAny (model PySem.Challenge.rw_in0246_01.row.prog w) ⟨none, dp, fr, gd, un⟩ (call (.ref 83) [.ref a, .int x tn]) Q E s := by
  k_with_none
  k_fill
  (k_with "exec For Name Subscript cons nil" => (k_here; (rename Fr _ _ _ _ => lF'); (with_unfolding_all refine' For_invVF lF' ?k1 ?k2 ?_; (case k1 => exact rfl); (case k2 => exact rfl); k_whole)))
  (k_with "execs cons" => (first | (k_here; k_gentoks) | ((with_reducible refine Mine.execs_nx ?_); (try dsimp only))))
  (k_with "WhlPost" => dsimp only [Mine.Nx])
  (k_with "KswPost" => dsimp only [Mine.Nx])
  (k_with "InvPostN" => dsimp only [Mine.Nx])
  (k_with "UnrPost" => dsimp only [Mine.Nx])
  (k_with "storeName" => dsimp only)
  intro X T hdp hun ha hv hlen hHp hret
  k_dflt ((refine' Mine.enter (by assumption) (by assumption) ?ck ?cs ?ho ?hcd ?hroom ?hbind ?hloc ?c2 ?c3 ?c4 ?c5 ?_; (case ho => k_is); (case hcd => k_is); (case hbind => exact BindsTo.of_eq rfl); (case hloc => exact locs rfl); (case c2 => exact rfl); (case c3 => exact rfl); (case c4 => exact rfl); (case c5 => decide)))
  case ck => exact fun _ _ e => Heap.of_hide e
  case cs => exact Nat.le_of_eq (Heap.hide_size _ _)
  case hroom => exact Mine.rm (j := 0) hdp rfl
  intro L h₁ hL F hk
  have N := hide_news ha hk hL
  have hvl := hv.length
  clear hL hk
  (try dsimp only)
  (try k_fold)
  k_steps
  rename Fr _ _ _ _ => F'
  rename News _ _ _ _ => N'
  have hne := (N' _ (.head _)).2.1
  have hi := hv.append (.cons x tn .nil)
  have hq : (((ns.length + 1 : Nat) : Int) - 1).toNat = ns.length := by (first | lia | omega)
  have ho := push_ord (x := x) hHp hq
  with_unfolding_all refine' siftdown_spec (X.keeps (hide_keep F'.keep)) (T.keeps (hide_keep F'.keep)) ?d ?u (News.get N' (.head _)) hi ?le ?p0 ?p1 ho.1 ho.2 ?_
  case d => (show dp + 1 + 5 < _; exact Mine.rm (j := 6) hdp rfl)
  case u => (show un + 3 + 20 < _; exact Mine.rm (j := 23) hun rfl)
  case le => (simp only [List.length_append, List.length_cons, List.length_nil]; (first | lia | omega))
  case p0 => (first | lia | omega)
  case p1 => (simp only [List.length_append, List.length_cons, List.length_nil]; (first | lia | omega))
  intro vs9 ns9 n9 h9 tk9 hk9 hg9 hi9 hp9 hh9
  have F9 := fr_after F' hne (Heap.hide_self _ _) hk9
  refine wpAny_execs_nil ?_
  exact hret _ _ _ _ _ F9.keep hg9 hi9 hp9 hh9
theorem heapreplace_spec {w : World} {dp un : Nat} {fr : Option (List Env)} {gd : Option (List Code)} {p : Program} {loose : List Str} {mean : ExcName → Option Value} {mg mb : Str → Option Value} {s : Shared} {a : Addr} {vs : List Value} {ns : List Int} {n : Nat} {x : Int} {tn : Tok} {Q E : Value → Shared → Prop} :
   (hd.heap_39 w.params).In (s.heap.hide a) → Top p loose mean mg mb (s.heap.hide a) → dp + 20 < recursionLimit → un + 60 < cLine →
   s.heap.get? a = some (listOf vs.toArray n) → IntsAre vs ns → ns.length ≤ 900000 → 0 < ns.length → IsHp ns →
   (∀ vs' ns' n' h' t' tk', (∀ b o, (s.heap.hide a).get? b = some o → h'.get? b = some o) → h'.get? a = some (listOf vs'.toArray n') → IntsAre vs' ns' → ns'.Perm (ns.set 0 x) → IsHp ns' → Q (.int (ns.getD 0 0) t') { s with heap := h', toks := tk' }) →
   wpAny (model PySem.Challenge.rw_in0246_01.row.prog w) ⟨none, dp, fr, gd, un⟩ (call (.ref 97) [.ref a, .int x tn]) Q E s := by
  k_with_none
  k_fill
  (k_with "exec For Name Subscript cons nil" => (k_here; (rename Fr _ _ _ _ => lF'); (with_unfolding_all refine' For_invVF lF' ?k1 ?k2 ?_; (case k1 => exact rfl); (case k2 => exact rfl); k_whole)))
  (k_with "execs cons" => (first | (k_here; k_gentoks) | ((with_reducible refine Mine.execs_nx ?_); (try dsimp only))))
  (k_with "WhlPost" => dsimp only [Mine.Nx])
  (k_with "KswPost" => dsimp only [Mine.Nx])
  (k_with "InvPostN" => dsimp only [Mine.Nx])
  (k_with "UnrPost" => dsimp only [Mine.Nx])
  (k_with "storeName" => dsimp only)
  intro X T hdp hun ha hv hlen hp0 hHp hret
  k_dflt ((refine' Mine.enter (by assumption) (by assumption) ?ck ?cs ?ho ?hcd ?hroom ?hbind ?hloc ?c2 ?c3 ?c4 ?c5 ?_; (case ho => k_is); (case hcd => k_is); (case hbind => exact BindsTo.of_eq rfl); (case hloc => exact locs rfl); (case c2 => exact rfl); (case c3 => exact rfl); (case c4 => exact rfl); (case c5 => decide)))
  case ck => exact fun _ _ e => Heap.of_hide e
  case cs => exact Nat.le_of_eq (Heap.hide_size _ _)
  case hroom => exact Mine.rm (j := 0) hdp rfl
  intro L h₁ hL F hk
  have N := hide_news ha hk hL
  have hvl := hv.length
  clear hL hk
  (try dsimp only)
  (try k_fold)
  k_steps
  rename Fr _ _ _ _ => F'
  rename News _ _ _ _ => N'
  have hne := (N' _ (.head _)).2.1
  with_unfolding_all refine' siftup_spec (X.keeps (hide_keep F'.keep)) (T.keeps (hide_keep F'.keep)) ?d ?u (News.get N' (.head _)) (by assumption) ?le ?p0 (replace_ord hHp) ?_
  case d => (show dp + 1 + 10 < _; exact Mine.rm (j := 11) hdp rfl)
  case u => (show un + 3 + 40 < _; exact Mine.rm (j := 43) hun rfl)
  case le => (simp only [List.length_set]; (first | lia | omega))
  case p0 => (simp only [List.length_set]; (first | lia | omega))
  intro vs9 ns9 n9 h9 tk9 hk9 hg9 hi9 hp9 hh9
  have F9 := fr_after F' hne (Heap.hide_self _ _) hk9
  have N9 := news_put N' (fun _ h => nomatch h) hk9 hg9
  clear F' N'
  k_steps
  exact hret _ _ _ _ _ _ F9.keep hg9 hi9 hp9 hh9
theorem heappop_spec {w : World} {dp un : Nat} {fr : Option (List Env)} {gd : Option (List Code)} {p : Program} {loose : List Str} {mean : ExcName → Option Value} {mg mb : Str → Option Value} {s : Shared} {a : Addr} {vs : List Value} {ns : List Int} {n : Nat} {Q E : Value → Shared → Prop} :
   (hd.heap_39 w.params).In (s.heap.hide a) → Top p loose mean mg mb (s.heap.hide a) → dp + 20 < recursionLimit → un + 60 < cLine →
   s.heap.get? a = some (listOf vs.toArray n) → IntsAre vs ns → ns.length ≤ 900000 → 0 < ns.length → IsHp ns →
   (∀ vs' ns' n' h' t' tk', (∀ b o, (s.heap.hide a).get? b = some o → h'.get? b = some o) → h'.get? a = some (listOf vs'.toArray n') → IntsAre vs' ns' → (ns.getD 0 0 :: ns').Perm ns → IsHp ns' → Q (.int (ns.getD 0 0) t') { s with heap := h', toks := tk' }) →
   wpAny (model PySem.Challenge.rw_in0246_01.row.prog w) ⟨none, dp, fr, gd, un⟩ (call (.ref 90) [.ref a]) Q E s := by
  k_with_none
  k_fill
  (k_with "exec For Name Subscript cons nil" => (k_here; (rename Fr _ _ _ _ => lF'); (with_unfolding_all refine' For_invVF lF' ?k1 ?k2 ?_; (case k1 => exact rfl); (case k2 => exact rfl); k_whole)))
  (k_with "execs cons" => (first | (k_here; k_gentoks) | ((with_reducible refine Mine.execs_nx ?_); (try dsimp only))))
  (k_with "WhlPost" => dsimp only [Mine.Nx])
  (k_with "KswPost" => dsimp only [Mine.Nx])
  (k_with "InvPostN" => dsimp only [Mine.Nx])
  (k_with "UnrPost" => dsimp only [Mine.Nx])
  (k_with "storeName" => dsimp only)
  intro X T hdp hun ha hv hlen hp0 hHp hret
  k_dflt ((refine' Mine.enter (by assumption) (by assumption) ?ck ?cs ?ho ?hcd ?hroom ?hbind ?hloc ?c2 ?c3 ?c4 ?c5 ?_; (case ho => k_is); (case hcd => k_is); (case hbind => exact BindsTo.of_eq rfl); (case hloc => exact locs rfl); (case c2 => exact rfl); (case c3 => exact rfl); (case c4 => exact rfl); (case c5 => decide)))
  case ck => exact fun _ _ e => Heap.of_hide e
  case cs => exact Nat.le_of_eq (Heap.hide_size _ _)
  case hroom => exact Mine.rm (j := 0) hdp rfl
  intro L h₁ hL F hk
  have N := hide_news ha hk hL
  have hvl := hv.length
  clear hL hk
  (try dsimp only)
  (try k_fold)
  have hdl : ns.dropLast.length = ns.length - 1 := List.length_dropLast
  k_steps
  · rename Fr _ _ _ _ => F'
    rename News _ _ _ _ => N'
    rename (0 < ns.dropLast.length) => hpos
    have hne := (N' _ (.head _)).2.1
    with_unfolding_all refine' siftup_spec (X.keeps (hide_keep F'.keep)) (T.keeps (hide_keep F'.keep)) ?d ?u (News.get N' (.head _)) (by assumption) ?le ?p0 (replace_ord (drop_hp hHp)) ?_
    case d => (show dp + 1 + 10 < _; exact Mine.rm (j := 11) hdp rfl)
    case u => (show un + 3 + 40 < _; exact Mine.rm (j := 43) hun rfl)
    case le => (simp only [List.length_set]; (first | lia | omega))
    case p0 => (simp only [List.length_set]; (first | lia | omega))
    intro vs9 ns9 n9 h9 tk9 hk9 hg9 hi9 hp9 hh9
    have F9 := fr_after F' hne (Heap.hide_self _ _) hk9
    have N9 := news_put N' (fun _ h => nomatch h) hk9 hg9
    clear F' N'
    have e9 : ns.dropLast.getD (Int.toNat 0) 0 = ns.getD 0 0 := getD_dropLast (by (first | lia | omega))
    rw [e9] at F9
    k_steps
    exact hret _ _ _ _ _ _ F9.keep hg9 hi9 (pop_perm hpos hp9) hh9
  · rename Fr _ _ _ _ => F'
    rename News _ _ _ _ => N'
    rename (¬ 0 < ns.dropLast.length) => hpos
    have hd0 : ns.dropLast = [] := List.eq_nil_of_length_eq_zero (by (first | lia | omega))
    have h1 := pop_one hp0 hd0
    rw [h1.1]
    exact hret _ _ _ _ _ _ F'.keep (News.get N' (.head _)) (by assumption) h1.2 (by rw [hd0]; exact hp_nil)
end Mine
end
section
namespace Mine
open PySem.Calls PySem.Spec

/-- what a list comprehension has collected behind i turns -/
inductive Coll (test : Nat → Bool) (val : Nat → Value → Prop) : Nat → List Value → Prop
  | zero : Coll test val 0 []
  | skip {i : Nat} {ys : List Value} : Coll test val i ys → test i = false → Coll test val (i + 1) ys
  | take {i : Nat} {ys : List Value} {v : Value} : Coll test val i ys → test i = true → val i v → Coll test val (i + 1) (ys ++ [v])
theorem Coll.len {test : Nat → Bool} {val : Nat → Value → Prop} {i : Nat} {ys : List Value} (c : Coll test val i ys) : ys.length ≤ i := by
  induction c with
  | zero => exact Nat.le_refl _
  | skip _ _ ih => (first | lia | omega)
  | take _ _ _ ih => simp; (first | lia | omega)

def testsOf (ifs : List Expr) (env : Env) : Sem Bool :=
  forIn ifs true fun c r => if r = true then do let ok ← isTrue c env (eval c env); pure (ForInStep.yield ok) else pure (ForInStep.yield r)

def ZSrc (prog : Program) (w : World) (A : Around) (env : Env) (elt : Expr) (elts : List Expr) (k0 : Nat) (tp : Pos) (ifs : List Expr) (scope : Scope) (cl : List (Str × Addr)) (Q : Value → Shared → Prop) (xv : Value) (s₁ : Shared) : Prop :=
  ∃ (z : Addr) (fp wr : List Addr) (n : Nat) (Pt : Nat → Array Value → Prop) (St : Nat → Heap → Prop) (Mid : Nat → Addr → Heap → Prop) (test : Nat → Bool) (val : Nat → Value → Prop) (Bd : Nat → (Str → Option Value) → Prop),
    xv = .ref z ∧ WalksT prog w A z fp wr n Pt St Mid ∧ St 0 s₁.heap ∧ (∀ b ∈ fp, b < s₁.heap.objs.size) ∧ n ≤ sizeLine ∧
    (∀ i vals T C h tk m' (Q' : Unit → Shared → Prop) (E' : Value → Shared → Prop), i < n → Pt i vals → h.IsTuple T vals → (∀ b o, b ∉ wr → s₁.heap.get? b = some o → h.get? b = some o) → h.Ns C m' →
      (∀ h' m'' tk', h'.Ns C m'' → Bd i m'' → (∀ b o, b ≠ C → h.get? b = some o → h'.get? b = some o) → Q' () { s₁ with heap := h', toks := tk' }) →
      wpAny (model prog w) A (assign (.Tuple elts k0 tp) (compEnvC scope cl C env) (.ref T)) Q' E' { s₁ with heap := h, toks := tk }) ∧
    (∀ i C h tk m' (Q' : Bool → Shared → Prop) (E' : Value → Shared → Prop), i < n → Bd i m' → h.Ns C m' → (∀ tk', Q' (test i) { s₁ with heap := h, toks := tk' }) →
      wpAny (model prog w) A (testsOf ifs (compEnvC scope cl C env)) Q' E' { s₁ with heap := h, toks := tk }) ∧
    (∀ i C h tk m' (Q' : Value → Shared → Prop) (E' : Value → Shared → Prop), i < n → test i = true → Bd i m' → h.Ns C m' → (∀ v tk', val i v → Q' v { s₁ with heap := h, toks := tk' }) →
      wpAny (model prog w) A (eval elt (compEnvC scope cl C env)) Q' E' { s₁ with heap := h, toks := tk }) ∧
    (∀ D ys h tk, (∀ b o, b ∉ wr → s₁.heap.get? b = some o → h.get? b = some o) → s₁.heap.get? D = none → h.get? D = some (listOf ys.toArray ys.length) → Coll test val n ys → Q (.ref D) { s₁ with heap := h, toks := tk })

section
variable {prog : Program} {w : World} {A : Around} {E : Value → Shared → Prop} {s : Shared} {env : Env}
theorem compLoop_T {elt target iter : Expr} {ifs : List Expr} {scope : Scope} {pos : Pos} {it acc : Value} {env : Env} {R : Result → Shared → Prop} (I : Nat → Shared → Prop)
    (turn : ∀ n s, I n s → wpAny (model prog w) A (pyNext it) (fun r s₁ => match r with
      | none => R (.ok .next) s₁
      | some v => wpAny (model prog w) A (letOwnedTupleGo target it v) (fun _ s₂ => wpAny (model prog w) A (assign target env v) (fun _ s₃ =>
          wpAny (model prog w) A (testsOf ifs env) (fun ok s₄ =>
            if ok = true then wpAny (model prog w) A (eval elt env) (fun x s₅ =>
              wpAny (model prog w) A (call (.builtin "list.append") [acc, x]) (fun _ s₆ => ∃ m, m < n ∧ I m s₆) (notedBy (model prog w) A env fun e s' => R (.error e) s') s₅) (notedBy (model prog w) A env fun e s' => R (.error e) s') s₄
            else ∃ m, m < n ∧ I m s₄) (notedBy (model prog w) A env fun e s' => R (.error e) s') s₃) (notedBy (model prog w) A env fun e s' => R (.error e) s') s₂)
          (notedBy (model prog w) A env fun e s' => R (.error e) s') s₁) (notedBy (model prog w) A env fun e s' => R (.error e) s') s)
    (n : Nat) (h : I n s) : codeAny (model prog w) A (.compLoop (.ListComp elt [⟨target, iter, ifs, 0⟩] scope pos) 0 it acc env) R s := by
  refine codeAny_loop rfl I (fun n s hI => ?_) n h
  show wpAny _ A ((compTurn (.ListComp elt [⟨target, iter, ifs, 0⟩] scope pos) 0 it acc env).onRaise (fun x => do noteFrame x env; theTreesLotGoes x)) _ _ s
  refine wpAny_noted ?_
  rw [compTurn_list]
  refine wpAny_bind (wpAny_standAt (wpAny_bind (wpAny_mono (turn n s hI) (fun r s₁ h₁ => ?_) fun _ _ h' => h')))
  cases r with
  | none => exact wpAny_pure h₁
  | some v =>
    refine wpAny_bind (wpAny_mono h₁ (fun _ s₂ h₂ => wpAny_bind (wpAny_mono h₂ (fun _ s₃ h₃ => wpAny_bind (wpAny_mono h₃ (fun ok s₄ h₄ => ?_) fun _ _ h' => h')) fun _ _ h' => h')) fun _ _ h' => h')
    cases ok with
    | false => exact wpAny_pure ⟨rfl, h₄⟩
    | true => exact wpAny_bind (wpAny_bind (wpAny_mono h₄ (fun x s₅ h₅ => wpAny_bind (wpAny_mono h₅ (fun _ s₆ h₆ => wpAny_pure (wpAny_pure ⟨rfl, h₆⟩)) fun _ _ h' => h')) fun _ _ h' => h'))

theorem comp_T {elt iter : Expr} {elts : List Expr} {k0 : Nat} {tp : Pos} {ifs : List Expr} {scope : Scope} {cl : List (Str × Addr)} {pos : Pos} {Q : Value → Shared → Prop}
    (hclos : closureFor scope env = pure cl) (hcell : ∀ y ∈ scope.names, y.2 ≠ .cell) (hkind : scope.kind = .function)
    (hnames : ∀ y ∈ scope.names, y.2 = .local → scope.names.lookup y.1 = some .local)
    (h : wpAny (model prog w) A (eval iter env) (ZSrc prog w A env elt elts k0 tp ifs scope cl Q) E s)
    (hs : ∀ x, foldedSetIterable iter env x = pure x := by intro _; rfl) :
    wpAny (model prog w) A (eval (.ListComp elt [⟨.Tuple elts k0 tp, iter, ifs, 0⟩] scope pos) env) Q E s := by
  rw [eval_ListComp]
  refine wpAny_comprehension_free (use := none) rfl hs hclos hkind hnames (wpAny_mono h (fun xv s₁ h₁ => ?_) fun _ _ e => e)
  obtain ⟨z, fp, wr, n, Pt, St, Mid, test, val, Bd, rfl, W, hst, hfp, hsz, hbind, htest, helt, hfin⟩ := h₁
  refine W.self 0 _ _ _ hst ?_
  refine wpAny_newObj_type (wpAny_newFunctionEnv hcell (by intro y hy; simp at hy) (fun h₁ hns₁ hsb₁ => ?_) hkind)
  dsimp only at hns₁ hsb₁ ⊢
  generalize hH2 : s₁.heap.push { cls := .type "list", dict := none, data := .seq ([] : List Value).toArray } = H2 at hns₁ hsb₁ ⊢
  have hC : H2.objs.size = s₁.heap.objs.size + 1 := by rw [← hH2, Heap.size_push]
  have below : ∀ b, b < s₁.heap.objs.size → b ≠ H2.objs.size ∧ b ≠ s₁.heap.objs.size := fun b hb => ⟨by rw [hC]; exact Nat.ne_of_lt (Nat.lt_succ_of_lt hb), Nat.ne_of_lt hb⟩
  have hDC : s₁.heap.objs.size ≠ H2.objs.size := by rw [hC]; exact Nat.ne_of_lt (Nat.lt_succ_self _)
  have old : ∀ b o, s₁.heap.get? b = some o → h₁.get? b = some o := fun b o e => hsb₁.extBut b o (below b (Heap.lt_size e)).1 (Heap.get?_push_of_some _ (hH2 ▸ Heap.get?_push_of_some _ e))
  have hacc : h₁.get? s₁.heap.objs.size = some (listOf ([] : List Value).toArray 0) := hsb₁.extBut _ _ hDC (Heap.get?_push_of_some _ (hH2 ▸ Heap.get?_push_size _ rfl))
  have hst₁ : St 0 h₁ := W.frame _ _ _ hst fun b _ o e => old b o e
  have hCf : ∀ b ∈ fp, b ≠ H2.objs.size := fun b hb => (below b (hfp b hb)).1
  have hDf : ∀ b ∈ fp, b ≠ s₁.heap.objs.size := fun b hb => (below b (hfp b hb)).2
  have hCw : H2.objs.size ∉ wr := fun hm => hCf _ (W.sub _ hm) rfl
  have hDw : s₁.heap.objs.size ∉ wr := fun hm => hDf _ (W.sub _ hm) rfl
  have loop : ∀ s₃ : Shared, s₃ = { s₁ with heap := h₁, toks := s₁.toks + ([] : List (Str × Value)).length } →
      codeAny (model prog w) A (.compLoop (.ListComp elt [⟨.Tuple elts k0 tp, iter, ifs, 0⟩] scope pos) 0 (.ref z) (.ref s₁.heap.objs.size) (compEnvC scope cl H2.objs.size env))
        (compPost (model prog w) A E none Q (.ref s₁.heap.objs.size) H2.objs.size) s₃ := by
    rintro s₃ rfl
    refine compLoop_T
      (fun k s' => ∃ h' tk i ys m', s' = { s₁ with heap := h', toks := tk } ∧ i ≤ n ∧ k = n + 1 - i ∧ St i h' ∧ h'.Ns H2.objs.size m' ∧ h'.get? s₁.heap.objs.size = some (listOf ys.toArray ys.length) ∧
        (∀ b o, b ∉ wr → s₁.heap.get? b = some o → h'.get? b = some o) ∧ Coll test val i ys) ?_ (n + 1)
      ⟨h₁, _, 0, [], _, rfl, Nat.zero_le _, rfl, hst₁, hns₁, hacc, fun b o _ e => old b o e, .zero⟩
    rintro k s' ⟨h', tk, i, ys, m', rfl, hi, rfl, hst', hn', hD', hk', hc'⟩
    by_cases hlt : i < n
    · refine W.item i _ _ _ hlt hst' fun T vals h₂ tk₂ hP hT hTup hMid hk₂ => ?_
      refine W.go _ _ _ _ _ _ _ _ hMid fun h₃ hst₃ hk₃ => ?_
      have hTup₃ : h₃.IsTuple T vals := hTup.at fun o e => hk₃ _ o (W.apart _ _ _ hMid) e
      have k3 : ∀ b o, b ∉ wr → s₁.heap.get? b = some o → h₃.get? b = some o := fun b o hb e => hk₃ _ _ hb (hk₂ _ _ hb (hk' b o hb e))
      have hn₃ : h₃.Ns H2.objs.size m' := (hn'.at' fun o e => hk₂ _ o hCw e).at' fun o e => hk₃ _ o hCw e
      have hD₃ := hk₃ _ _ hDw (hk₂ _ _ hDw hD')
      refine hbind i vals T H2.objs.size h₃ _ m' _ _ hlt hP hTup₃ k3 hn₃ fun h₄ m₄ tk₄ hn₄ hB hk₄ => ?_
      have hst₄ : St (i + 1) h₄ := W.frame _ _ _ hst₃ fun b hb o e => hk₄ b o (hCf b hb) e
      have hD₄ := hk₄ _ _ hDC hD₃
      have k4 : ∀ b o, b ∉ wr → s₁.heap.get? b = some o → h₄.get? b = some o := fun b o hb e => hk₄ _ _ (below b (Heap.lt_size e)).1 (k3 b o hb e)
      refine htest i H2.objs.size h₄ tk₄ m₄ _ _ hlt hB hn₄ fun tk₅ => ?_
      cases ht : test i with
      | false =>
        rw [if_neg Bool.false_ne_true]
        exact ⟨n + 1 - (i + 1), by (first | lia | omega), h₄, tk₅, i + 1, ys, m₄, rfl, hlt, rfl, hst₄, hn₄, hD₄, k4, hc'.skip ht⟩
      | true =>
        rw [if_pos rfl]
        refine helt i H2.objs.size h₄ tk₅ m₄ _ _ hlt ht hB hn₄ fun v tk₆ hv => ?_
        refine append_at (hsz := by show ys.toArray.size ≤ sizeLine; rw [List.size_toArray]; exact Nat.le_trans (Nat.le_trans hc'.len hi) hsz) hD₄ fun h₅ hs₅ hD₅ => ?_
        refine ⟨n + 1 - (i + 1), by (first | lia | omega), h₅, tk₆, i + 1, ys ++ [v], m₄, rfl, hlt, rfl, W.frame _ _ _ hst₄ fun b hb o e => hs₅.extBut b o (hDf b hb) e, hn₄.sameBut hs₅ (Ne.symm hDC), ?_,
          fun b o hb e => hs₅.extBut b o (below b (Heap.lt_size e)).2 (k4 b o hb e), hc'.take ht hv⟩
        rw [hD₅]
        show some (listOf (ys.toArray.push v) (ys.length + 1)) = _
        rw [List.push_toArray, List.length_append, List.length_singleton]
    · obtain rfl : i = n := Nat.le_antisymm hi (Nat.not_lt.mp hlt)
      refine W.done _ _ _ hst' fun h₂ tk₂ hk₂ => ?_
      have hn₂ : h₂.Ns H2.objs.size m' := hn'.at' fun o e => hk₂ _ o hCw e
      refine ⟨m', hn₂, fun h'' hs'' => ?_⟩
      refine hfin _ ys h'' tk₂ (fun b o hb e => hs''.extBut b o (below b (Heap.lt_size e)).1 (hk₂ _ _ hb (hk' b o hb e))) ?_ (hs''.extBut _ _ hDC (hk₂ _ _ hDw hD')) hc'
      cases e : s₁.heap.get? s₁.heap.objs.size with
      | none => rfl
      | some o' => exact absurd (Heap.lt_size e) (Nat.lt_irrefl _)
  exact codeAny_compStart_list (loop _ rfl) (W.self 0 _ _ _ hst₁ (loop _ rfl))
end
end Mine
namespace Mine
open PySem.Calls PySem.Spec
section
variable {prog : Program} {w : World} {A : Around} {E : Value → Shared → Prop} {s : Shared} {env : Env}
theorem none_of_ge {h : Heap} {a : Addr} (ha : h.objs.size ≤ a) : h.get? a = none := by
  cases e : h.get? a with
  | none => rfl
  | some o => exact absurd (Heap.lt_size e) (Nat.not_lt.mpr ha)
theorem zip_src {l1 l2 : Addr} {xs ys : Array Value} {elt : Expr} {x x₂ : Str} {px px₂ tp : Pos} {k0 : Nat} {scope : Scope} {cl : List (Str × Addr)} {Q : Value → Shared → Prop} {val : Nat → Value → Prop}
    (hh : A.handled = none) (hl1 : s.heap.IsList l1 xs) (hl2 : s.heap.IsList l2 ys) (hkind : scope.kind = .function) (hx : scope.names.lookup x = some .local) (hx₂ : scope.names.lookup x₂ = some .local) (hxx : x ≠ x₂) (hsz : min xs.size ys.size ≤ sizeLine)
    (helt : ∀ i X Y C h tk m' (Q' : Value → Shared → Prop) (E' : Value → Shared → Prop), xs[i]? = some X → ys[i]? = some Y → m' x = some X → m' x₂ = some Y → h.Ns C m' → (∀ v tk', val i v → Q' v { s with heap := h, toks := tk' }) →
      wpAny (model prog w) A (eval elt (compEnvC scope cl C env)) Q' E' { s with heap := h, toks := tk })
    (hfin : ∀ D vals h tk, (∀ b o, s.heap.get? b = some o → h.get? b = some o) → s.heap.get? D = none → h.get? D = some (listOf vals.toArray vals.length) → Coll (fun _ => true) val (min xs.size ys.size) vals → Q (.ref D) { s with heap := h, toks := tk }) :
    wpAny (model prog w) A (call (.type "zip") [.ref l1, .ref l2]) (ZSrc prog w A env elt [.Name x px, .Name x₂ px₂] k0 tp [] scope cl Q) E s := by
  have h1lt : @LT.lt Nat _ l1 s.heap.objs.size := by obtain ⟨_, e, _⟩ := hl1; exact Heap.lt_size e
  have h2lt : @LT.lt Nat _ l2 s.heap.objs.size := by obtain ⟨_, e, _⟩ := hl2; exact Heap.lt_size e
  refine call_zip_2 hl1 hl2 fun h₁ hz hTI hTO hi1 hi2 hsz₁ hk₁ => ?_
  have D : ZipApart (s.heap.objs.size + 4) (s.heap.objs.size + 2) (s.heap.objs.size + 3) s.heap.objs.size (s.heap.objs.size + 1) l1 l2 := by
    clear hz hTI hTO hi1 hi2 hk₁ helt hfin
    constructor <;> (refine neN ?_; (first | lia | omega))
  refine ⟨_, _, _, min xs.size ys.size, _, _, _, (fun _ => true), val, (fun i m => ∃ X Y, xs[i]? = some X ∧ ys[i]? = some Y ∧ m x = some X ∧ m x₂ = some Y), rfl, WalksT.zip2 hh _ _ _ _ _ _ _ D xs ys,
    ⟨hz, hTI, ⟨_, _, hTO⟩, hi1, hi2, hl1.at fun o e => hk₁ _ o e, hl2.at fun o e => hk₁ _ o e⟩, ?_, hsz, ?_, ?_, ?_, ?_⟩
  · intro b hb
    rw [hsz₁]
    simp only [List.mem_cons, List.not_mem_nil, or_false] at hb
    rcases hb with rfl | rfl | rfl | rfl | rfl | rfl | rfl <;> (refine ltN ?_; (first | lia | omega))
  · rintro i vals T C h tk m' Q' E' hi ⟨X, Y, hX, hY, rfl⟩ hT _ hC hQ
    refine assign_Tuple_tuple hh hT rfl rfl fun h₅ he => ?_
    have he' : ∀ b o, h.get? b = some o → h₅.get? b = some o := fun b o e => he b o (Nat.ne_of_lt (Heap.lt_size e)) e
    refine assignInOrder_cons (wpAny_assign_Name (wpAny_storeName_local (lookup_relabel_local hx) (hC.at' fun o e => he' _ o e) (fun h₆ hn₆ hs₆ => ?_) (by simp [compEnvC, relabel, hkind])))
    refine assignInOrder_cons (wpAny_assign_Name (wpAny_storeName_local (lookup_relabel_local hx₂) hn₆ (fun h₃ hn₃ hs₃ => ?_) (by simp [compEnvC, relabel, hkind])))
    refine assignInOrder_nil (hQ h₃ _ _ hn₃ ⟨X, Y, hX, hY, by simp [hxx], by simp⟩ fun b o hb e => hs₃.extBut b o hb (hs₆.extBut b o hb (he' b o e)))
  · intro i C h tk m' Q' E' _ _ _ hQ
    exact wpAny_pure (hQ tk)
  · rintro i C h tk m' Q' E' _ _ ⟨X, Y, hX, hY, h1, h2⟩ hC hQ
    exact helt i X Y C h tk m' Q' E' hX hY h1 h2 hC hQ
  · intro D' vals h tk hk hD hg hc
    refine hfin D' vals h tk (fun b o e => hk b o (fun hm => ?_) (hk₁ b o e)) ?_ hg hc
    · have hb : @LT.lt Nat _ b s.heap.objs.size := Heap.lt_size e
      simp only [List.mem_cons, List.not_mem_nil, or_false] at hm
      rcases hm with rfl | rfl | rfl | rfl <;> exact absurd hb (by first | exact Nat.lt_irrefl _ | (refine Nat.not_lt.mpr ?_; (first | lia | omega)))
    · cases e : s.heap.get? D' with
      | none => rfl
      | some o => rw [hk₁ _ _ e] at hD; cases hD
theorem coll_ints {val : Nat → Value → Prop} {zs : List Int} (hv : ∀ i v, val i v → ∃ z t, zs[i]? = some z ∧ v = .int z t) {i : Nat} {ys : List Value} (c : Coll (fun _ => true) val i ys) : IntsAre ys (zs.take i) := by
  induction c with
  | zero => exact .nil
  | skip _ h => cases h
  | @take i ys v _ _ h ih =>
    obtain ⟨z, t, hz, rfl⟩ := hv _ _ h
    rw [List.take_add_one, hz]
    exact ih.append (.cons z t .nil)
theorem mul_elt {x x₂ : Str} {p1 p2 p3 : Pos} {scope : Scope} {cl : List (Str × Addr)} {C : Addr} {m' : Str → Option Value} {a b : Int} {ta tb : Tok} {Q : Value → Shared → Prop}
    (hkind : scope.kind = .function) (hx : scope.names.lookup x = some .local) (hx₂ : scope.names.lookup x₂ = some .local) (hC : s.heap.Ns C m') (h1 : m' x = some (.int a ta)) (h2 : m' x₂ = some (.int b tb))
    (ha0 : -100 ≤ a) (ha1 : a ≤ 100) (hd : (x == ("__debug__" : Str)) = false) (hd₂ : (x₂ == ("__debug__" : Str)) = false) (h : Q (.int (a * b) s.toks) { s with toks := s.toks + 1 }) :
    wpAny (model prog w) A (eval (.BinOp (.Name x p1) .Mult (.Name x₂ p2) p3) (compEnvC scope cl C env)) Q E s := by
  refine wpAny_BinOp ?_
  refine wpAny_Name (wpAny_loadName_local (by simp [compEnvC, relabel, hkind]) (lookup_relabel_local hx) hC h1 ?_) hd
  refine wpAny_Name (wpAny_loadName_local (by simp [compEnvC, relabel, hkind]) (lookup_relabel_local hx₂) hC h2 ?_) hd₂
  exact PyProof.Rows.mul_int h (IntMulOk.of_left (intBits_le_64 (by (first | lia | omega)) (by (first | lia | omega))))
end
end Mine
end
section
namespace Mine
theorem last_getD {ws : List Int} (h : 0 < ws.length) : ws.getD (-1 + (ws.length : Int)).toNat 0 = ws.getLastD 0 := by
  obtain ⟨r, hr⟩ := last_eq h
  rw [show (-1 + (ws.length : Int)).toNat = ws.length - 1 by (first | lia | omega)]
  conv => lhs; rw [hr]
  simp
theorem last_lt {ws : List Int} (h : 0 < ws.length) (hc : ws.getD (-1 + (ws.length : Int)).toNat 0 < (10 : Int) ^ Int.toNat 5) : ws.getLastD 0 < 100000 := by
  rw [last_getD h] at hc
  exact hc
theorem last_ge {ws : List Int} (h : 0 < ws.length) (hc : ¬ ws.getD (-1 + (ws.length : Int)).toNat 0 < (10 : Int) ^ Int.toNat 5) : ¬ ws.getLastD 0 < 100000 := by
  rw [last_getD h] at hc
  exact hc
theorem wts_word1 {ns ws : List Int} (W : Wts ns ws) (hlt : ws.getLastD 0 < 100000) (h : ((ws.length : Nat) : Int) < ((ns.length : Nat) : Int)) : Wts ns (ws ++ [((ns.zip ws.reverse).map fun q : Int × Int => q.1 * q.2).sum + 1]) := by
  have := W.next hlt
  unfold wRec wSum at this
  rwa [if_pos (by (first | lia | omega))] at this
theorem wts_word0 {ns ws : List Int} (W : Wts ns ws) (hlt : ws.getLastD 0 < 100000) (h : ¬ ((ws.length : Nat) : Int) < ((ns.length : Nat) : Int)) : Wts ns (ws ++ [((ns.zip ws.reverse).map fun q : Int × Int => q.1 * q.2).sum + 0]) := by
  have := W.next hlt
  unfold wRec wSum at this
  rwa [if_neg (by (first | lia | omega))] at this
theorem wts_less1 {ns ws : List Int} (hp : ∀ x ∈ ns, 1 ≤ x ∧ x ≤ 9) (h2 : 2 ≤ ns.length) (h3 : ns.length ≤ 3) (W : Wts ns ws) (hlt : ws.getLastD 0 < 100000) (h : ((ws.length : Nat) : Int) < ((ns.length : Nat) : Int)) :
    (3000001 - (ws ++ [((ns.zip ws.reverse).map fun q : Int × Int => q.1 * q.2).sum + 1]).getLastD 0).toNat < (3000001 - ws.getLastD 0).toNat := by
  have h1 := wts_grow hp h2 h3 W hlt
  unfold wRec wSum at h1
  rw [if_pos (by (first | lia | omega))] at h1
  rw [getLastD_snoc]
  (first | lia | omega)
theorem wts_less0 {ns ws : List Int} (hp : ∀ x ∈ ns, 1 ≤ x ∧ x ≤ 9) (h2 : 2 ≤ ns.length) (h3 : ns.length ≤ 3) (W : Wts ns ws) (hlt : ws.getLastD 0 < 100000) (h : ¬ ((ws.length : Nat) : Int) < ((ns.length : Nat) : Int)) :
    (3000001 - (ws ++ [((ns.zip ws.reverse).map fun q : Int × Int => q.1 * q.2).sum + 0]).getLastD 0).toNat < (3000001 - ws.getLastD 0).toNat := by
  have h1 := wts_grow hp h2 h3 W hlt
  unfold wRec wSum at h1
  rw [if_neg (by (first | lia | omega))] at h1
  rw [getLastD_snoc]
  (first | lia | omega)
theorem weights_spec {w : World} {dp un : Nat} {fr : Option (List Env)} {gd : Option (List Code)} {p : Program} {loose : List Str} {mean : ExcName → Option Value} {mg mb : Str → Option Value} {s : Shared} {l : Addr} {vs : List Value} {ns : List Int} {Q E : Value → Shared → Prop} :
   (hd.heap_39 w.params).In s.heap → Top p loose mean mg mb s.heap → dp + 10 < recursionLimit → un + 40 < cLine →
   s.heap.IsList l vs.toArray → IntsAre vs ns → 2 ≤ ns.length → ns.length ≤ 3 → (∀ x ∈ ns, 1 ≤ x ∧ x ≤ 9) →
   (∀ r vs' n' ns' h' tk', (∀ b o, s.heap.get? b = some o → h'.get? b = some o) → s.heap.get? r = none → h'.get? r = some (listOf vs'.toArray n') → IntsAre vs' ns' → Wts ns ns' → ¬ ns'.getLastD 0 < 100000 → Q (.ref r) { s with heap := h', toks := tk' }) →
   wpAny (model PySem.Challenge.rw_in0246_01.row.prog w) ⟨none, dp, fr, gd, un⟩ (call (.ref 116) [.ref l]) Q E s := by
  k_with_none
  k_fill
  (k_with "exec For Name Subscript cons nil" => (k_here; (rename Fr _ _ _ _ => lF'); (with_unfolding_all refine' For_invVF lF' ?k1 ?k2 ?_; (case k1 => exact rfl); (case k2 => exact rfl); k_whole)))
  (k_with "execs cons" => (first | (k_here; k_gentoks) | ((with_reducible refine Mine.execs_nx ?_); (try dsimp only))))
  (k_with "WhlPost" => dsimp only [Mine.Nx])
  (k_with "KswPost" => dsimp only [Mine.Nx])
  (k_with "InvPostN" => dsimp only [Mine.Nx])
  (k_with "UnrPost" => dsimp only [Mine.Nx])
  (k_with "storeName" => dsimp only)
  (k_with "eval ListComp" => refine Mine.hold ?_)
  (k_with "call type:zip" => refine Mine.hold ?_)
  intro X T hdp hun ha hv hl0 hl1 hpos hret
  k_dflt ((refine' Mine.enter (by assumption) (by assumption) ?ck ?cs ?ho ?hcd ?hroom ?hbind ?hloc ?c2 ?c3 ?c4 ?c5 ?_; (case ho => k_is); (case hcd => k_is); (case hbind => exact BindsTo.of_eq rfl); (case hloc => exact locs rfl); (case c2 => exact rfl); (case c3 => exact rfl); (case c4 => exact rfl); (case c5 => decide)))
  case ck => exact fun _ _ e => e
  case cs => exact Nat.le_refl _
  case hroom => exact Mine.rm (j := 0) hdp rfl
  intro L h₁ hL F hk
  have N : News s.heap L h₁ [] := News.nil
  have hvl := hv.length
  clear hL hk
  (try dsimp only)
  (try k_fold)
  (k_with "exec While Compare cons nil" => refine hold ?_)
  k_steps
  refine unhold ?_
  (k_with "state" => exact Wts.one)
  k_while (fun _ (h : List Int) => Wts ns h) (fun _ (h : List Int) => (3000001 - h.getLastD 0).toNat) "weights"
  rename_i us ws nn kl
  have hW : Wts ns ws := kInv
  have hWf := wts_facts hpos hl0 hl1 hW
  have hWl := hWf.pos
  have hWm := hWf.len
  have hWt := hWf.top
  k_steps
  · rename (List.getD _ _ 0 < _) => hc
    have hlt := last_lt hWl hc
    refine unhold ?_
    k_dflt (refine' comp_T ?c1 ?c2 ?c3 ?c4 ?_)
    case c1 => with_unfolding_all rfl
    case c2 => decide
    case c3 => rfl
    case c4 => decide
    k_steps
    refine unhold ?_
    rename Fr _ _ _ _ => F'
    rename News _ _ _ _ => N'
    rename (IntsAre _ (List.reverse _)) => hrv
    have hrl := hrv.length
    have hl' : Heap.IsList _ _ _ := ha.at fun o e => F'.keep l o e
    have hl2 := News.isList N' (.head _)
    with_unfolding_all refine' zip_src (val := fun i v => ∃ z t, (List.map (fun q : Int × Int => q.1 * q.2) (ns.zip ws.reverse))[i]? = some z ∧ v = .int z t) ?hh hl' hl2 ?hk ?hx ?hx2 ?hxx ?hsz ?he ?hf
    case hh => rfl
    case hk => rfl
    case hx => rfl
    case hx2 => rfl
    case hxx => decide
    case hsz => (rw [sizeLine_eq]; simp; (first | lia | omega))
    case he =>
      intro i X Y C h tk m' Q' E' hX hY h1 h2 hC hQ
      obtain ⟨a, ta, rfl, ha'⟩ := hv.at i X (by simpa using hX)
      obtain ⟨b, tb, rfl, hb'⟩ := hrv.at i Y (by simpa using hY)
      have hab := hpos a (List.mem_of_getElem? ha')
      refine mul_elt (by rfl) (by rfl) (by rfl) hC h1 h2 (by (first | lia | omega)) (by (first | lia | omega)) (by decide) (by decide) ?_
      refine hQ _ _ ⟨a * b, _, ?_, rfl⟩
      rw [List.getElem?_map, List.getElem?_zip_eq_some (z := (a, b)) |>.mpr ⟨ha', hb'⟩]
      rfl
    case hf =>
      intro D vals h tk hk hD hg hc
      have hI := coll_ints (fun i v hv => hv) hc
      rw [List.length_reverse] at hrl
      rw [List.take_of_length_le (by simp; (first | lia | omega))] at hI
      have F9 := fr_keep F' hk
      have N9 := news_new F' N' hk hD hg
      have hne := ne_new hD (News.get N' (.tail _ (.head _)))
      have hvl9 := hI.length
      clear F' N' hk hD hg
      (k_with "state" => first | exact wts_word1 hW hlt (by assumption) | exact wts_word0 hW hlt (by assumption))
      (k_with "measure" => first | exact wts_less1 hpos hl0 hl1 hW hlt (by assumption) | exact wts_less0 hpos hl0 hl1 hW hlt (by assumption))
      k_steps
  · rename News _ _ _ _ => N'
    rename (¬ List.getD _ _ 0 < _) => hc
    have hge := last_ge hWl hc
    exact hret _ _ _ _ _ _ kFr.keep (N' _ (.head _)).2.2 (News.get N' (.head _)) kFacts hW hge
end Mine
end
section
namespace Mine
/-- _law_row from a state on, in k turns -/
inductive RowRun (ws : List Int) (root : Int) (wished : Int) (res : List Int) : Nat → List Int → Int → Int → Prop
  | done {row : List Int} {shift number : Int} : ¬ (row.length : Int) < wished → row = res → RowRun ws root wished res 0 row shift number
  | hit {k : Nat} {row : List Int} {shift number : Int} : (row.length : Int) < wished → Int.fdiv (greedyI number ws) shift = root → RowRun ws root wished res k (row ++ [greedyI number ws]) shift (number + 1) → RowRun ws root wished res (k + 1) row shift number
  | miss {k : Nat} {row : List Int} {shift number : Int} : (row.length : Int) < wished → ¬ Int.fdiv (greedyI number ws) shift = root → shift * 16 ≤ 16 ^ 7 → RowRun ws root wished res k row (shift * 16) (valueI (root * (shift * 16)) ws) → RowRun ws root wished res (k + 1) row shift number
theorem RowRun.uniq {ws : List Int} {root wished : Int} {res : List Int} {k : Nat} {row : List Int} {shift number : Int} (h : RowRun ws root wished res k row shift number) : ∀ {j : Nat}, RowRun ws root wished res j row shift number → j = k := by
  induction h with
  | done h _ => intro j h'; cases h' <;> first | rfl | exact absurd (by assumption) h
  | hit h e _ ih => intro j h'; cases h' <;> first | exact absurd h (by assumption) | exact congrArg _ (ih (by assumption)) | exact absurd e (by assumption)
  | miss h e _ _ ih => intro j h'; cases h' <;> first | exact absurd h (by assumption) | exact congrArg _ (ih (by assumption)) | exact absurd (by assumption) e
noncomputable def rowCost (ws : List Int) (root wished : Int) (res row : List Int) (shift number : Int) : Nat := by
  classical
  exact if h : ∃ k, RowRun ws root wished res k row shift number then Classical.choose h else 0
theorem rowCost_eq {ws : List Int} {root wished : Int} {res : List Int} {k : Nat} {row : List Int} {shift number : Int} (h : RowRun ws root wished res k row shift number) : rowCost ws root wished res row shift number = k := by
  unfold rowCost
  rw [dif_pos ⟨k, h⟩]
  exact h.uniq (Classical.choose_spec (⟨k, h⟩ : ∃ k, RowRun ws root wished res k row shift number))
theorem row_less {ws : List Int} {root wished : Int} {res : List Int} {k : Nat} {row row' : List Int} {shift shift' number number' : Int} (h : RowRun ws root wished res k row shift number) (h' : RowRun ws root wished res (k + 1) row' shift' number') :
    rowCost ws root wished res row shift number < rowCost ws root wished res row' shift' number' := by
  rw [rowCost_eq h, rowCost_eq h']
  exact Nat.lt_succ_self _
theorem row_spec {w : World} {dp un : Nat} {fr : Option (List Env)} {gd : Option (List Code)} {p : Program} {loose : List Str} {mean : ExcName → Option Value} {mg mb : Str → Option Value} {s : Shared} {l : Addr} {vs : List Value} {ws : List Int} {n : Int} {tn tw : Tok} {wished : Int} {res : List Int} {k0 : Nat} {Q E : Value → Shared → Prop} :
   (hd.heap_39 w.params).In s.heap → Top p loose mean mg mb s.heap → dp + 10 < recursionLimit → un + 40 < cLine →
   s.heap.IsList l vs.toArray → IntsAre vs ws → ws.length ≤ 3000000 → (∀ x ∈ ws, 0 < x ∧ x < 1073741824) → wished ≤ 100 → -(2 ^ 63) < greedyI n ws → greedyI n ws < 2 ^ 63 → RowRun ws (greedyI n ws) wished res k0 [] 1 n →
   (∀ r vs' n' h' tk', (∀ b o, s.heap.get? b = some o → h'.get? b = some o) → s.heap.get? r = none → h'.get? r = some (listOf vs'.toArray n') → IntsAre vs' res → Q (.ref r) { s with heap := h', toks := tk' }) →
   wpAny (model PySem.Challenge.rw_in0246_01.row.prog w) ⟨none, dp, fr, gd, un⟩ (call (.ref 137) [.int n tn, .ref l, .int wished tw]) Q E s := by
  k_with_none
  k_fill
  (k_with "exec For Name Subscript cons nil" => (k_here; (rename Fr _ _ _ _ => lF'); (with_unfolding_all refine' For_invVF lF' ?k1 ?k2 ?_; (case k1 => exact rfl); (case k2 => exact rfl); k_whole)))
  (k_with "execs cons" => (first | (k_here; k_gentoks) | ((with_reducible refine Mine.execs_nx ?_); (try dsimp only))))
  (k_with "WhlPost" => dsimp only [Mine.Nx])
  (k_with "KswPost" => dsimp only [Mine.Nx])
  (k_with "InvPostN" => dsimp only [Mine.Nx])
  (k_with "UnrPost" => dsimp only [Mine.Nx])
  (k_with "storeName" => dsimp only)
  intro X T hdp hun hl hv hlen hpos hwi hr0 hr1 hrun hret
  k_dflt ((refine' Mine.enter (by assumption) (by assumption) ?ck ?cs ?ho ?hcd ?hroom ?hbind ?hloc ?c2 ?c3 ?c4 ?c5 ?_; (case ho => k_is); (case hcd => k_is); (case hbind => exact BindsTo.of_eq rfl); (case hloc => exact locs rfl); (case c2 => exact rfl); (case c3 => exact rfl); (case c4 => exact rfl); (case c5 => decide)))
  case ck => exact fun _ _ e => e
  case cs => exact Nat.le_refl _
  case hroom => exact Mine.rm (j := 0) hdp rfl
  intro L h₁ hL F hk
  have N : News s.heap L h₁ [] := News.nil
  have X' := X.keeps F.keep
  have T' := T.keeps F.keep
  have hl' := hl.at fun o e => F.keep l o e
  clear hL hk
  (try dsimp only)
  (try k_fold)
  k_steps
  with_unfolding_all refine' greedy_spec X' T' ?d ?u hl' hv hlen hpos ?_
  case d => (show dp + 1 + 5 < _; exact Mine.rm (j := 6) hdp rfl)
  case u => (show un + 3 + 20 < _; exact Mine.rm (j := 23) hun rfl)
  intro t9 h9 tk9 hk9
  have F9 := fr_keep F hk9
  have N9 := news_keep N hk9
  clear F N hl' X' T' hk9
  generalize hroot : greedyI n ws = root at *
  (k_with "exec While Compare cons nil" => refine hold ?_)
  k_steps
  refine unhold ?_
  (k_with "state" => exact ⟨by decide, by decide, by decide, _, hrun⟩)
  k_while (fun _ (row : List Int) (number shift : Int) => row.length ≤ 100 ∧ 0 < shift ∧ shift ≤ 16 ^ 7 ∧ ∃ k, RowRun ws root wished res k row shift number) (fun _ (row : List Int) (number shift : Int) => rowCost ws root wished res row shift number) "row" "number" "shift"
  rename_i us row nn number tn2 shift ts2 hr100 hs0 hs1 hex kl
  obtain ⟨k, hk⟩ := hex
  k_steps
  · rename (_ < wished) => hlt
    have hk2 := hk
    have F := kFr
    have N := kNews
    clear kFr kNews
    with_unfolding_all refine' greedy_spec (X.keeps F.keep) (T.keeps F.keep) ?d ?u (hl.at fun o e => F.keep l o e) hv hlen hpos ?_
    case d => (show dp + 1 + 5 < _; exact Mine.rm (j := 6) hdp rfl)
    case u => (show un + 3 + 20 < _; exact Mine.rm (j := 23) hun rfl)
    intro t8 h8 tk8 hk8
    have F8 := fr_keep F hk8
    have N8 := news_keep N hk8
    clear F N hk8
    cases hk with
    | done h _ => exact absurd hlt h
    | hit h e hn =>
      generalize greedyI number ws = wr at *
      (k_with "state" => exact ⟨by simp; omega, hs0, hs1, _, hn⟩)
      (k_with "measure" => exact row_less hn hk2)
      k_steps
      all_goals exact absurd e (by assumption)
    | miss h e hb hn =>
      generalize greedyI number ws = wr at *
      k_steps
      rename Fr _ _ _ _ => F
      rename News _ _ _ _ => N
      with_unfolding_all refine' value_spec (X.keeps F.keep) (T.keeps F.keep) ?d ?u (hl.at fun o e => F.keep l o e) hv hlen hpos ?_
      case d => (show dp + 1 + 5 < _; exact Mine.rm (j := 6) hdp rfl)
      case u => (show un + 3 + 20 < _; exact Mine.rm (j := 23) hun rfl)
      intro t7 h7 tk7 hk7
      have F7 := fr_keep F hk7
      have N7 := news_keep N hk7
      clear F N hk7
      (k_with "state" => exact ⟨hr100, by omega, hb, _, hn⟩)
      (k_with "measure" => exact row_less hn hk2)
      k_steps
  · rename (¬ _ < wished) => hge
    rename News _ _ _ _ => N'
    cases hk with
    | done _ e =>
      subst e
      exact hret _ _ _ _ _ kFr.keep (N' _ (.tail _ (.head _))).2.2 (News.get N' (.tail _ (.head _))) kFacts
    | hit h _ _ => exact absurd h hge
    | miss h _ _ _ => exact absurd h hge
end Mine
end
section
namespace Mine
open PySem.Calls PySem.Spec

/-! zip over a list and a text of plain letters -/
abbrev SIter (h : Heap) (a : Addr) (x : Str) (t : Tok) (i : Nat) : Prop := h.IsStrIter a "str_ascii_iterator" x t i
abbrev lsH1 (h : Heap) (l : Addr) : Heap := h.push { cls := .type "list_iterator", data := .fields #[.ref l, .int 0 0] }
abbrev lsH2 (h : Heap) (l : Addr) (x : Str) (t : Tok) : Heap := (lsH1 h l).push { cls := .type "str_ascii_iterator", data := .fields #[.str x t, .int 0 0] }
abbrev lsH3 (h : Heap) (l : Addr) (x : Str) (t : Tok) : Heap := (lsH2 h l x t).push { cls := .type "tuple", data := .seq #[.ref h.objs.size, .ref (lsH1 h l).objs.size] }
abbrev lsH4 (h : Heap) (l : Addr) (x : Str) (t : Tok) : Heap := (lsH3 h l x t).push { cls := .type "tuple", data := .seq #[.none, .none] }
abbrev lsH5 (h : Heap) (l : Addr) (x : Str) (t : Tok) : Heap := (lsH4 h l x t).push { cls := .type "zip", data := .fields #[.none, .bool false, .bool false, .ref (lsH2 h l x t).objs.size, .ref (lsH3 h l x t).objs.size] }
theorem ls_new (l : Addr) (xs : Array Value) (x : Str) (t : Tok) (ha : x.cps.all (· < 128) = true) :
    Meets (Builtin.«zip.__new__» ⟨[.type "zip", .ref l, .str x t], []⟩) (fun _ R s => s.heap.IsList l xs ∧
      R (.ok (.ret (.ref (lsH4 s.heap l x t).objs.size))) { s with heap := lsH5 s.heap l x t }) :=
  .of_wp fun prog w A R s h => by
    obtain ⟨hp, g, d, tk, os⟩ := s
    obtain ⟨hl, h⟩ := h
    have hsub := sub_zip
    have hL : Heap.IsList (Shared.heap ⟨hp, g, d, tk, os⟩) l xs := hl
    wp_walk using wpAny_pyIter_list hL, wpAny_pyIter_ascii ha
    exact ⟨_, rfl, h⟩

structure LsApart (z TI TO i1 i2 l : Addr) : Prop where
  TIz : TI ≠ z
  TOz : TO ≠ z
  i1z : i1 ≠ z
  i2z : i2 ≠ z
  TITO : TI ≠ TO
  TIi1 : TI ≠ i1
  TIi2 : TI ≠ i2
  TOi1 : TO ≠ i1
  TOi2 : TO ≠ i2
  i12 : i1 ≠ i2
  lz : l ≠ z
  lTO : l ≠ TO
  li1 : l ≠ i1
  li2 : l ≠ i2

section
variable {prog : Program} {w : World} {A : Around} {E : Value → Shared → Prop} {s : Shared} {env : Env}
theorem call_ls {l : Addr} {xs : Array Value} {x : Str} {t : Tok} {Q : Value → Shared → Prop} (hl : s.heap.IsList l xs) (ha : x.cps.all (· < 128) = true)
    (h : ∀ h', IsZip h' (s.heap.objs.size + 4) (s.heap.objs.size + 2) (s.heap.objs.size + 3) .none → IsPair h' (s.heap.objs.size + 2) (.ref s.heap.objs.size) (.ref (s.heap.objs.size + 1)) →
      IsPair h' (s.heap.objs.size + 3) .none .none → h'.IsListIter s.heap.objs.size l 0 → SIter h' (s.heap.objs.size + 1) x t 0 → h'.objs.size = s.heap.objs.size + 5 →
      (∀ c o, s.heap.get? c = some o → h'.get? c = some o) → Q (.ref (s.heap.objs.size + 4)) { s with heap := h' }) :
    wpAny (model prog w) A (call (.type "zip") [.ref l, .str x t]) Q E s := by
  refine callType_new F.called_zip (by decide) (F.typeCall_zip_2 _ _) (F.newCall_zip_2 _ _) (fun obj => F.args_object_init_3 obj _ _) F.entry_zip_new (ls_new l xs x t ha) ⟨hl, ?_⟩
  have z1 : (lsH1 s.heap l).objs.size = s.heap.objs.size + 1 := Heap.size_push ..
  have z2 : (lsH2 s.heap l x t).objs.size = s.heap.objs.size + 2 := by rw [Heap.size_push, z1]
  have z3 : (lsH3 s.heap l x t).objs.size = s.heap.objs.size + 3 := by rw [Heap.size_push, z2]
  have z4 : (lsH4 s.heap l x t).objs.size = s.heap.objs.size + 4 := by rw [Heap.size_push, z3]
  have z5 : (lsH5 s.heap l x t).objs.size = s.heap.objs.size + 5 := by rw [Heap.size_push, z4]
  have g5 : (lsH5 s.heap l x t).get? (lsH4 s.heap l x t).objs.size = some _ := Heap.get?_push_size _ rfl
  have g4 : (lsH5 s.heap l x t).get? (lsH3 s.heap l x t).objs.size = some _ := Heap.get?_push_of_some _ (Heap.get?_push_size _ rfl)
  have g3 : (lsH5 s.heap l x t).get? (lsH2 s.heap l x t).objs.size = some _ := Heap.get?_push_of_some _ (Heap.get?_push_of_some _ (Heap.get?_push_size _ rfl))
  have g2 : (lsH5 s.heap l x t).get? (lsH1 s.heap l).objs.size = some _ := Heap.get?_push_of_some _ (Heap.get?_push_of_some _ (Heap.get?_push_of_some _ (Heap.get?_push_size _ rfl)))
  have g1 : (lsH5 s.heap l x t).get? s.heap.objs.size = some _ := Heap.get?_push_of_some _ (Heap.get?_push_of_some _ (Heap.get?_push_of_some _ (Heap.get?_push_of_some _ (Heap.get?_push_size _ rfl))))
  show _ ∧ _
  rw [z2, z3, z4] at g5
  rw [z1, z2] at g3
  rw [z3] at g4
  rw [z1] at g2
  rw [z4]
  exact ⟨⟨_, g5, rfl⟩, h _ g5 g3 g4 ⟨_, g1, rfl, rfl⟩ ⟨_, g2, rfl, rfl⟩ z5 fun c o x =>
    Heap.get?_push_of_some _ (Heap.get?_push_of_some _ (Heap.get?_push_of_some _ (Heap.get?_push_of_some _ (Heap.get?_push_of_some _ x))))⟩

theorem ls_item {z TI TO i1 i2 l : Addr} {k1 k2 c : Nat} {xs : Array Value} {x : Str} {t : Tok} {X a b : Value} {Q : Value → Shared → Prop} (D : LsApart z TI TO i1 i2 l)
    (hz : IsZip s.heap z TI TO .none) (hTI : IsPair s.heap TI (.ref i1) (.ref i2)) (hTO : IsPair s.heap TO a b)
    (h1 : s.heap.IsListIter i1 l k1) (h2 : SIter s.heap i2 x t k2) (hl : s.heap.IsList l xs) (hx : xs[k1]? = some X) (hy : x.cps[k2]? = some c)
    (hQ : ∀ h', IsZip h' z TI TO (rawInt s.heap.objs.size) → (∃ a b, IsPair h' TO a b) → h'.IsListIter i1 l (k1 + 1) → SIter h' i2 x t (k2 + 1) → IsPair h' s.heap.objs.size X (.str ⟨#[c]⟩ s.toks) →
      (∀ c o, c ≠ z → c ≠ TO → c ≠ i1 → c ≠ i2 → s.heap.get? c = some o → h'.get? c = some o) → Q (.ref s.heap.objs.size) { s with heap := h', toks := s.toks + 1 }) :
    wpAny (model prog w) A (Builtin.«zip.__next__» ⟨[.ref z], []⟩) (fun fin s' => ∃ v, fin = .done (.ret v) ∧ Q v s') E s := by
  show wpAny _ _ (field (.ref z) 2 >>= _) _ _ _
  refine wpAny_bind (wpAny_field hz rfl (x := .bool false) rfl ?_)
  show wpAny _ _ (field (.ref z) 3 >>= _) _ _ _
  refine wpAny_bind (wpAny_field hz rfl (x := .ref TI) rfl ?_)
  refine wpAny_bind (wpAny_seqItems hTI rfl ?_)
  show wpAny _ _ (Builtin.SmallTypes.ownedTupleIsFree (.ref z) >>= _) _ _ _
  refine wpAny_bind ?_
  unfold Builtin.SmallTypes.ownedTupleIsFree
  refine wpAny_bind (wpAny_field hz rfl (x := .none) rfl (wpAny_pure ?_))
  simp only [if_true]
  refine wpAny_bind (wpAny_rule ?_)
  refine wpAny_bind (wpAny_field hz rfl (x := .ref TO) rfl ?_)
  refine wpAny_bind (wpAny_setField_rec hz (by simp) fun h₁ hz₁ hs₁ => ?_)
  replace hz₁ : IsZip h₁ z TI TO .ellipsis := hz₁
  refine wpAny_bind ?_
  simp only [List.zipIdx_cons, List.zipIdx_nil, List.forIn_cons, List.forIn_nil]
  refine wpAny_bind (wpAny_bind (wpAny_onRaise ?_))
  show wpAny _ _ (Builtin.SmallTypes.nextOf (.ref i1) >>= _) _ _ _
  refine wpAny_bind (wpAny_nextOf_list_item (h1.extBut hs₁.extBut D.i1z) (hl.extBut hs₁.extBut D.lz) hx fun h₂ h1₂ hs₂ => wpAny_pure ?_)
  have hTO₂ : IsPair h₂ TO a b := hs₂.extBut _ _ D.TOi1 (hs₁.extBut _ _ D.TOz hTO)
  refine wpAny_bind (wpAny_seqItems hTO₂ rfl ?_)
  refine wpAny_bind (wpAny_updateSeq_pair hTO₂ fun h₃ hTO₃ hs₃ => ?_)
  replace hTO₃ : IsPair h₃ TO X b := hTO₃
  refine wpAny_bind (wpAny_letGo (wpAny_pure ?_))
  refine wpAny_bind (wpAny_bind (wpAny_onRaise ?_))
  show wpAny _ _ (Builtin.SmallTypes.nextOf (.ref i2) >>= _) _ _ _
  refine wpAny_bind (wpAny_nextOf_ascii_item (((h2.extBut hs₁.extBut D.i2z).extBut hs₂.extBut D.i12.symm).extBut hs₃.extBut D.TOi2.symm) hy fun h₄ h2₄ hs₄ => wpAny_pure ?_)
  have hTO₄ : IsPair h₄ TO X b := hs₄.extBut _ _ D.TOi2 hTO₃
  refine wpAny_bind (wpAny_seqItems hTO₄ rfl ?_)
  refine wpAny_bind (wpAny_updateSeq_pair hTO₄ fun h₅ hTO₅ hs₅ => ?_)
  replace hTO₅ : IsPair h₅ TO X (.str ⟨#[c]⟩ s.toks) := hTO₅
  refine wpAny_bind (wpAny_letGo (wpAny_pure (wpAny_pure ?_)))
  refine wpAny_bind (wpAny_seqItems hTO₅ rfl ?_)
  refine wpAny_bind (wpAny_newTuple ?_)
  have hsz : h₅.objs.size = s.heap.objs.size := by rw [hs₅.1, hs₄.1, hs₃.1, hs₂.1, hs₁.1]
  have hz₅ : IsZip h₅ z TI TO .ellipsis := hs₅.extBut _ _ D.TOz.symm (hs₄.extBut _ _ D.i2z.symm (hs₃.extBut _ _ D.TOz.symm (hs₂.extBut _ _ D.i1z.symm hz₁)))
  have hk₅ : ∀ c o, c ≠ z → c ≠ TO → c ≠ i1 → c ≠ i2 → s.heap.get? c = some o → h₅.get? c = some o := fun c o c1 c2 c3 c4 e =>
    hs₅.extBut _ _ c2 (hs₄.extBut _ _ c4 (hs₃.extBut _ _ c2 (hs₂.extBut _ _ c3 (hs₁.extBut _ _ c1 e))))
  have h1₅ : h₅.IsListIter i1 l (k1 + 1) := ((h1₂.extBut hs₃.extBut D.TOi1.symm).extBut hs₄.extBut D.i12).extBut hs₅.extBut D.TOi1.symm
  have h2₅ : SIter h₅ i2 x t (k2 + 1) := h2₄.extBut hs₅.extBut D.TOi2.symm
  have hzlt : z < h₅.objs.size := Heap.lt_size hz₅
  show wpAny _ _ (Builtin.SmallTypes.ownedTupleHandOut (.ref z) (.ref h₅.objs.size) >>= _) _ _ _
  refine wpAny_bind ?_
  unfold Builtin.SmallTypes.ownedTupleHandOut
  have hz₆ : IsZip (h₅.push { cls := .type "tuple", data := .seq #[X, .str ⟨#[c]⟩ s.toks] }) z TI TO .ellipsis := Heap.get?_push_of_some _ hz₅
  refine wpAny_bind (wpAny_setField_rec hz₆ (by simp) fun h₇ hz₇ hs₇ => ?_)
  replace hz₇ : IsZip h₇ z TI TO (rawInt h₅.objs.size) := hz₇
  refine wpAny_setField_rec hz₇ (by simp) fun h₈ hz₈ hs₈ => ?_
  replace hz₈ : IsZip h₈ z TI TO (rawInt h₅.objs.size) := hz₈
  have up : ∀ c o, c ≠ z → h₅.get? c = some o → h₈.get? c = some o := fun c o c1 e => hs₈.extBut _ _ c1 (hs₇.extBut _ _ c1 (Heap.get?_push_of_some _ e))
  have hT₈ : IsPair h₈ h₅.objs.size X (.str ⟨#[c]⟩ s.toks) := hs₈.extBut _ _ (Nat.ne_of_gt hzlt) (hs₇.extBut _ _ (Nat.ne_of_gt hzlt) (Heap.get?_push_size _ rfl))
  rw [hsz] at hz₈ hT₈
  refine wpAny_pure ⟨_, rfl, ?_⟩
  show Q (.ref h₅.objs.size) _
  rw [hsz]
  exact hQ h₈ hz₈ ⟨_, _, up _ _ D.TOz hTO₅⟩ (h1₅.at fun o e => up _ o D.i1z e) (let ⟨o, e, r⟩ := h2₅; ⟨o, up _ o D.i2z e, r⟩) hT₈ fun c o c1 c2 c3 c4 e => up c o c1 (hk₅ c o c1 c2 c3 c4 e)

theorem ls_end {z TI TO i1 i2 l : Addr} {k1 k2 : Nat} {xs : Array Value} {x : Str} {t : Tok} {a b : Value} {Q : Fin → Shared → Prop} (hh : A.handled = none) (D : LsApart z TI TO i1 i2 l)
    (hz : IsZip s.heap z TI TO .none) (hTI : IsPair s.heap TI (.ref i1) (.ref i2)) (hTO : IsPair s.heap TO a b)
    (h1 : s.heap.IsListIter i1 l k1) (h2 : SIter s.heap i2 x t k2) (hl : s.heap.IsList l xs) (hend : xs[k1]? = none ∨ x.cps[k2]? = none)
    (hE : ∀ h' e, (∀ c o, c ≠ z → c ≠ TO → c ≠ i1 → c ≠ i2 → s.heap.get? c = some o → h'.get? c = some o) → (∃ o, h'.get? e = some o ∧ o.cls = .type "StopIteration") → E (.ref e) { s with heap := h' }) :
    wpAny (model prog w) A (Builtin.«zip.__next__» ⟨[.ref z], []⟩) Q E s := by
  show wpAny _ _ (field (.ref z) 2 >>= _) _ _ _
  refine wpAny_bind (wpAny_field hz rfl (x := .bool false) rfl ?_)
  show wpAny _ _ (field (.ref z) 3 >>= _) _ _ _
  refine wpAny_bind (wpAny_field hz rfl (x := .ref TI) rfl ?_)
  refine wpAny_bind (wpAny_seqItems hTI rfl ?_)
  show wpAny _ _ (Builtin.SmallTypes.ownedTupleIsFree (.ref z) >>= _) _ _ _
  refine wpAny_bind ?_
  unfold Builtin.SmallTypes.ownedTupleIsFree
  refine wpAny_bind (wpAny_field hz rfl (x := .none) rfl (wpAny_pure ?_))
  simp only [if_true]
  refine wpAny_bind (wpAny_rule ?_)
  refine wpAny_bind (wpAny_field hz rfl (x := .ref TO) rfl ?_)
  refine wpAny_bind (wpAny_setField_rec hz (by simp) fun h₁ hz₁ hs₁ => ?_)
  replace hz₁ : IsZip h₁ z TI TO .ellipsis := hz₁
  refine wpAny_bind ?_
  simp only [List.zipIdx_cons, List.zipIdx_nil, List.forIn_cons, List.forIn_nil]
  refine wpAny_bind (wpAny_bind (wpAny_onRaise ?_))
  show wpAny _ _ (Builtin.SmallTypes.nextOf (.ref i1) >>= _) _ _ _
  cases hx : xs[k1]? with
  | none =>
    refine wpAny_bind (wpAny_nextOf_list_end hh (h1.extBut hs₁.extBut D.i1z) (hl.extBut hs₁.extBut D.lz) hx fun h₂ e hs₂ he => ?_)
    obtain ⟨oe, hoe, hce⟩ := he
    have hz₂ : IsZip h₂ z TI TO .ellipsis := hs₂ _ _ D.i1z.symm hz₁
    have hez : e ≠ z := fun x => by subst x; rw [hz₂] at hoe; cases hoe; simp at hce
    refine wpAny_setField_rec hz₂ (by simp) fun h₃ _ hs₃ => hE h₃ e (fun c o c1 _ c3 _ x => hs₃.extBut _ _ c1 (hs₂ _ _ c3 (hs₁.extBut _ _ c1 x))) ⟨oe, hs₃.extBut _ _ hez hoe, hce⟩
  | some X =>
    have hy : x.cps[k2]? = none := by rcases hend with h | h; rw [hx] at h; cases h; exact h
    refine wpAny_bind (wpAny_nextOf_list_item (h1.extBut hs₁.extBut D.i1z) (hl.extBut hs₁.extBut D.lz) hx fun h₂ h1₂ hs₂ => wpAny_pure ?_)
    have hTO₂ : IsPair h₂ TO a b := hs₂.extBut _ _ D.TOi1 (hs₁.extBut _ _ D.TOz hTO)
    refine wpAny_bind (wpAny_seqItems hTO₂ rfl ?_)
    refine wpAny_bind (wpAny_updateSeq_pair hTO₂ fun h₃ hTO₃ hs₃ => ?_)
    refine wpAny_bind (wpAny_letGo (wpAny_pure ?_))
    refine wpAny_bind (wpAny_bind (wpAny_onRaise ?_))
    show wpAny _ _ (Builtin.SmallTypes.nextOf (.ref i2) >>= _) _ _ _
    refine wpAny_bind (wpAny_nextOf_ascii_end hh (((h2.extBut hs₁.extBut D.i2z).extBut hs₂.extBut D.i12.symm).extBut hs₃.extBut D.TOi2.symm) hy fun h₄ e hs₄ he => ?_)
    obtain ⟨oe, hoe, hce⟩ := he
    have hz₄ : IsZip h₄ z TI TO .ellipsis := hs₄ _ _ D.i2z.symm (hs₃.extBut _ _ D.TOz.symm (hs₂.extBut _ _ D.i1z.symm hz₁))
    have hez : e ≠ z := fun x => by subst x; rw [hz₄] at hoe; cases hoe; simp at hce
    refine wpAny_setField_rec hz₄ (by simp) fun h₅ _ hs₅ => hE h₅ e (fun c o c1 c2 c3 c4 x => hs₅.extBut _ _ c1 (hs₄ _ _ c4 (hs₃.extBut _ _ c2 (hs₂.extBut _ _ c3 (hs₁.extBut _ _ c1 x))))) ⟨oe, hs₅.extBut _ _ hez hoe, hce⟩

theorem walks_ls (hh : A.handled = none) (z TI TO i1 i2 l : Addr) (D : LsApart z TI TO i1 i2 l) (xs : Array Value) (x : Str) (t : Tok) :
    WalksT prog w A z [z, TI, TO, i1, i2, l] [z, TO, i1, i2] (min xs.size x.cps.size)
      (fun i vals => ∃ X c u, xs[i]? = some X ∧ x.cps[i]? = some c ∧ vals = #[X, .str ⟨#[c]⟩ u])
      (fun i h => IsZip h z TI TO .none ∧ IsPair h TI (.ref i1) (.ref i2) ∧ (∃ a b, IsPair h TO a b) ∧ h.IsListIter i1 l i ∧ SIter h i2 x t i ∧ h.IsList l xs)
      (fun i T h => IsZip h z TI TO (rawInt T) ∧ IsPair h TI (.ref i1) (.ref i2) ∧ (∃ a b, IsPair h TO a b) ∧ h.IsListIter i1 l (i + 1) ∧ SIter h i2 x t (i + 1) ∧ h.IsList l xs ∧
        T ≠ z ∧ T ≠ TO ∧ T ≠ i1 ∧ T ≠ i2) where
  sub := fun c hc => by simp at hc ⊢; rcases hc with rfl | rfl | rfl | rfl <;> simp
  frame := fun i h h' hst hk => by
    obtain ⟨hz, hTI, ⟨a, b, hTO⟩, h1, h2, hl1⟩ := hst
    exact ⟨hk z (.head _) _ hz, hk TI (.tail _ (.head _)) _ hTI, ⟨a, b, hk TO (.tail _ (.tail _ (.head _))) _ hTO⟩, h1.at fun o e => hk i1 (.tail _ (.tail _ (.tail _ (.head _)))) o e, let ⟨o, e, r⟩ := h2; ⟨o, hk i2 (.tail _ (.tail _ (.tail _ (.tail _ (.head _))))) o e, r⟩,
      hl1.at fun o e => hk l (.tail _ (.tail _ (.tail _ (.tail _ (.tail _ (.head _)))))) o e⟩
  item := fun i s Q E hi hst hQ => by
    obtain ⟨hz, hTI, ⟨a, b, hTO⟩, h1, h2, hl1⟩ := hst
    have hix : i < xs.size := Nat.lt_of_lt_of_le hi (Nat.min_le_left ..)
    have hiy : i < x.cps.size := Nat.lt_of_lt_of_le hi (Nat.min_le_right ..)
    have hT : s.TypeIs (.ref z) "zip" := ⟨_, hz, rfl⟩
    unfold pyNext
    refine wpAny_bind (wpAny_attempt (wpAny_callSpecial?_slot (name := Str.ofString "__next__") hT F.slot_zip_next
      (wpAny_call_entry F.slot_zip_next hT F.entry_zip_next
        (ls_item D hz hTI hTO h1 h2 hl1 (Array.getElem?_eq_getElem hix) (Array.getElem?_eq_getElem hiy) fun h' a1 a2 a3 a4 a5 hk => wpAny_pure ?_) (F.args_zip_next_1 _))))
    have lt : ∀ {c o}, s.heap.get? c = some o → s.heap.objs.size ≠ c := fun e => Nat.ne_of_gt (Heap.lt_size e)
    exact hQ s.heap.objs.size #[xs[i], .str ⟨#[x.cps[i]]⟩ s.toks] h' _ ⟨_, _, _, Array.getElem?_eq_getElem hix, Array.getElem?_eq_getElem hiy, rfl⟩ (Nat.le_refl _) ⟨_, a5, rfl, _, rfl⟩
      ⟨a1, hk _ _ D.TIz D.TITO D.TIi1 D.TIi2 hTI, a2, a3, a4, hl1.at fun o e => hk _ o D.lz D.lTO D.li1 D.li2 e,
        lt hz, lt hTO, (by obtain ⟨_, e, _⟩ := h1; exact lt e), (by obtain ⟨_, e, _⟩ := h2; exact lt e)⟩
      fun c o hc e => hk c o (fun x => hc (by subst x; first | exact .head _ | exact .tail _ (.head _) | exact .tail _ (.tail _ (.head _)) | exact .tail _ (.tail _ (.tail _ (.head _))))) (fun x => hc (by subst x; first | exact .head _ | exact .tail _ (.head _) | exact .tail _ (.tail _ (.head _)) | exact .tail _ (.tail _ (.tail _ (.head _))))) (fun x => hc (by subst x; first | exact .head _ | exact .tail _ (.head _) | exact .tail _ (.tail _ (.head _)) | exact .tail _ (.tail _ (.tail _ (.head _))))) (fun x => hc (by subst x; first | exact .head _ | exact .tail _ (.head _) | exact .tail _ (.tail _ (.head _)) | exact .tail _ (.tail _ (.tail _ (.head _))))) e
  go := fun elts k pos i T s Q E hm hQ => by
    obtain ⟨hz, hTI, ⟨a, b, hTO⟩, h1, h2, hl1, _⟩ := hm
    refine wpAny_letOwnedTupleGo_zip hz fun h' hz' hs' => hQ h' ⟨hz', hs'.extBut _ _ D.TIz hTI, ⟨a, b, hs'.extBut _ _ D.TOz hTO⟩, h1.extBut hs'.extBut D.i1z, h2.extBut hs'.extBut D.i2z,
      hl1.extBut hs'.extBut D.lz⟩ fun c o hc e => hs'.extBut _ _ (fun x => hc (x ▸ .head _)) e
  apart := fun i T h hm hT => by
    obtain ⟨_, _, _, _, _, _, t1, t2, t3, t4⟩ := hm
    simp at hT
    rcases hT with rfl | rfl | rfl | rfl
    · exact t1 rfl
    · exact t2 rfl
    · exact t3 rfl
    · exact t4 rfl
  done := fun s Q E hst hQ => by
    obtain ⟨hz, hTI, ⟨a, b, hTO⟩, h1, h2, hl1⟩ := hst
    have hend : xs[min xs.size x.cps.size]? = none ∨ x.cps[min xs.size x.cps.size]? = none := by
      rcases Nat.le_total xs.size x.cps.size with h | h
      · exact .inl (by rw [Nat.min_eq_left h]; exact Array.getElem?_eq_none (Nat.le_refl _))
      · exact .inr (by rw [Nat.min_eq_right h]; exact Array.getElem?_eq_none (Nat.le_refl _))
    have hT : s.TypeIs (.ref z) "zip" := ⟨_, hz, rfl⟩
    unfold pyNext
    refine wpAny_bind (wpAny_attempt (wpAny_callSpecial?_slot (name := Str.ofString "__next__") hT F.slot_zip_next
      (wpAny_call_entry F.slot_zip_next hT F.entry_zip_next (ls_end hh D hz hTI hTO h1 h2 hl1 hend fun h' e hk he => ?_) (F.args_zip_next_1 _))))
    obtain ⟨o, ho, hc⟩ := he
    refine wpAny_bind (wpAny_isInstance (T := "StopIteration") (b := true) ⟨o, ho, hc⟩ isSubtype_stop ?_)
    exact wpAny_pure (hQ _ s.toks fun c o hc e => hk c o (fun x => hc (by subst x; first | exact .head _ | exact .tail _ (.head _) | exact .tail _ (.tail _ (.head _)) | exact .tail _ (.tail _ (.tail _ (.head _))))) (fun x => hc (by subst x; first | exact .head _ | exact .tail _ (.head _) | exact .tail _ (.tail _ (.head _)) | exact .tail _ (.tail _ (.tail _ (.head _))))) (fun x => hc (by subst x; first | exact .head _ | exact .tail _ (.head _) | exact .tail _ (.tail _ (.head _)) | exact .tail _ (.tail _ (.tail _ (.head _))))) (fun x => hc (by subst x; first | exact .head _ | exact .tail _ (.head _) | exact .tail _ (.tail _ (.head _)) | exact .tail _ (.tail _ (.tail _ (.head _))))) e)
  self := fun i s Q E hst hQ => wpAny_pyIter_zip hst.1 hQ
end
end Mine
end
section
namespace Mine
open PySem.Calls PySem.Spec
section
variable {prog : Program} {w : World} {A : Around} {E : Value → Shared → Prop} {s : Shared} {env : Env}
theorem cname {x : Str} {px : Pos} {scope : Scope} {cl : List (Str × Addr)} {C : Addr} {m' : Str → Option Value} {v : Value} {Q : Value → Shared → Prop}
    (hkind : scope.kind = .function) (hx : scope.names.lookup x = some .local) (hC : s.heap.Ns C m') (h1 : m' x = some v) (hd : (x == ("__debug__" : Str)) = false) (h : Q v s) :
    wpAny (model prog w) A (eval (.Name x px) (compEnvC scope cl C env)) Q E s :=
  wpAny_Name (wpAny_loadName_local (by simp [compEnvC, relabel, hkind]) (lookup_relabel_local hx) hC h1 h) hd
theorem one_lt (a c : Nat) : ([c] < [a]) ↔ c < a := by
  rw [List.cons_lt_cons_iff]
  constructor
  · rintro (h | ⟨_, h⟩)
    · exact h
    · exact absurd h (by simp)
  · exact .inl
theorem judge_test {lo si hi : Str} {p1 p2 p3 p4 p5 : Pos} {scope : Scope} {cl : List (Str × Addr)} {C : Addr} {m' : Str → Option Value} {a b c : Nat} {ta tb tc : Tok} {Q : Bool → Shared → Prop}
    (hkind : scope.kind = .function) (hlo : scope.names.lookup lo = some .local) (hsi : scope.names.lookup si = some .local) (hhi : scope.names.lookup hi = some .local) (hC : s.heap.Ns C m')
    (h1 : m' lo = some (.str ⟨#[a]⟩ ta)) (h2 : m' si = some (.str ⟨#[c]⟩ tc)) (h3 : m' hi = some (.str ⟨#[b]⟩ tb))
    (hd1 : (lo == ("__debug__" : Str)) = false) (hd2 : (si == ("__debug__" : Str)) = false) (hd3 : (hi == ("__debug__" : Str)) = false)
    (h : Q (!(decide (a ≤ c) && decide (c ≤ b))) s) :
    wpAny (model prog w) A (testsOf [.UnaryOp .Not (.Compare (.Name lo p1) [.LtE, .LtE] [.Name si p2, .Name hi p3] p4) p5] (compEnvC scope cl C env)) Q E s := by
  refine wpAny_tests_one (isTrue_not (isTrue_chain (cname hkind hlo hC h1 hd1 ?_)))
  refine test_link (cname hkind hsi hC h2 hd2 (PySem.P.le_str ?_))
  refine wpAny_truthy_bool ?_
  have e1 : (!decide ((⟨#[c]⟩ : Str).cps.toList < (⟨#[a]⟩ : Str).cps.toList)) = decide (a ≤ c) := by
    show (!decide ([c] < [a])) = _
    rw [decide_eq_decide.mpr (one_lt a c)]
    by_cases h : c < a
    · rw [decide_eq_true h, decide_eq_false (by (first | lia | omega))]; rfl
    · rw [decide_eq_false h, decide_eq_true (by (first | lia | omega))]; rfl
  have e2 : (!decide ((⟨#[b]⟩ : Str).cps.toList < (⟨#[c]⟩ : Str).cps.toList)) = decide (c ≤ b) := by
    show (!decide ([b] < [c])) = _
    rw [decide_eq_decide.mpr (one_lt c b)]
    by_cases h : b < c
    · rw [decide_eq_true h, decide_eq_false (by (first | lia | omega))]; rfl
    · rw [decide_eq_false h, decide_eq_true (by (first | lia | omega))]; rfl
  rw [e1]
  by_cases hac : a ≤ c
  · rw [decide_eq_true hac, Bool.true_and] at h
    rw [if_pos (decide_eq_true hac)]
    refine test_last (cname hkind hhi hC h3 hd3 (PySem.P.le_str ?_))
    refine wpAny_truthy_bool ?_
    rw [e2]
    exact h
  · rw [decide_eq_false hac, Bool.false_and] at h
    rw [if_neg (by rw [decide_eq_false hac]; exact Bool.false_ne_true)]
    exact h
/-- a list of pairs of one letter each -/
def JAt (h : Heap) (xs : Array Value) (js : List (Nat × Nat)) : Prop :=
  xs.size = js.length ∧ ∀ (i lo hi : Nat), js[i]? = some (lo, hi) → ∃ (q : Addr) (tl th : Tok), xs[i]? = some (Value.ref q) ∧ h.IsTuple q #[.str ⟨#[lo]⟩ tl, .str ⟨#[hi]⟩ th]
theorem JAt.keeps {h h' : Heap} {xs : Array Value} {js : List (Nat × Nat)} (J : JAt h xs js) (hk : ∀ b o, h.get? b = some o → h'.get? b = some o) : JAt h' xs js :=
  ⟨J.1, fun i lo hi e => let ⟨q, tl, th, h1, h2⟩ := J.2 i lo hi e; ⟨q, tl, th, h1, h2.at fun o e => hk _ o e⟩⟩
def outside (js : List (Nat × Nat)) (wd : List Nat) (i : Nat) : Bool := !(decide ((js.getD i (0, 0)).1 ≤ wd.getD i 0) && decide (wd.getD i 0 ≤ (js.getD i (0, 0)).2))
theorem takes_src {l : Addr} {xs : Array Value} {js : List (Nat × Nat)} {x : Str} {t : Tok} {lo hi si : Str} {p1 p2 p3 p4 p5 q1 q2 q3 q4 tp tp2 : Pos} {k0 k1 : Nat} {scope : Scope} {cl : List (Str × Addr)} {Q : Value → Shared → Prop}
    (hh : A.handled = none) (hl : s.heap.IsList l xs) (hJ : JAt s.heap xs js) (ha : x.cps.all (· < 128) = true) (hkind : scope.kind = .function)
    (hlo : scope.names.lookup lo = some .local) (hsi : scope.names.lookup si = some .local) (hhi : scope.names.lookup hi = some .local) (n1 : lo ≠ hi) (n2 : lo ≠ si) (n3 : hi ≠ si)
    (hd1 : (lo == ("__debug__" : Str)) = false) (hd2 : (si == ("__debug__" : Str)) = false) (hd3 : (hi == ("__debug__" : Str)) = false) (hsz : js.length ≤ 1000)
    (hfin : ∀ D vals h tk, (∀ b o, s.heap.get? b = some o → h.get? b = some o) → s.heap.get? D = none → h.get? D = some (listOf vals.toArray vals.length) →
      Coll (outside js x.cps.toList) (fun _ v => ∃ y u, v = .str y u) (min js.length x.cps.size) vals → Q (.ref D) { s with heap := h, toks := tk }) :
    wpAny (model prog w) A (call (.type "zip") [.ref l, .str x t]) (ZSrc prog w A env (.Name si q4) [.Tuple [.Name lo q1, .Name hi q2] k1 tp2, .Name si q3] k0 tp
      [.UnaryOp .Not (.Compare (.Name lo p1) [.LtE, .LtE] [.Name si p2, .Name hi p3] p4) p5] scope cl Q) E s := by
  have hlt : @LT.lt Nat _ l s.heap.objs.size := by obtain ⟨_, e, _⟩ := hl; exact Heap.lt_size e
  refine call_ls hl ha fun h₁ hz hTI hTO hi1 hi2 hsz₁ hk₁ => ?_
  have D : LsApart (s.heap.objs.size + 4) (s.heap.objs.size + 2) (s.heap.objs.size + 3) s.heap.objs.size (s.heap.objs.size + 1) l := by
    clear hz hTI hTO hi1 hi2 hk₁ hfin
    constructor <;> (refine neN ?_; (first | lia | omega))
  refine ⟨_, _, _, min xs.size x.cps.size, _, _, _, outside js x.cps.toList, (fun _ v => ∃ y u, v = .str y u),
    (fun i m => ∃ a b c ta tb tc, js[i]? = some (a, b) ∧ x.cps[i]? = some c ∧ m lo = some (.str ⟨#[a]⟩ ta) ∧ m hi = some (.str ⟨#[b]⟩ tb) ∧ m si = some (.str ⟨#[c]⟩ tc)), rfl, walks_ls hh _ _ _ _ _ _ D xs x t,
    ⟨hz, hTI, ⟨_, _, hTO⟩, hi1, hi2, hl.at fun o e => hk₁ _ o e⟩, ?_, ?_, ?_, ?_, ?_, ?_⟩
  · intro b hb
    rw [hsz₁]
    simp only [List.mem_cons, List.not_mem_nil, or_false] at hb
    rcases hb with rfl | rfl | rfl | rfl | rfl | rfl <;> (refine ltN ?_; (first | lia | omega))
  · rw [sizeLine_eq]
    have := hJ.1
    (first | lia | omega)
  · rintro i vals T C h tk m' Q' E' hi0 ⟨X, c, u, hX, hc, rfl⟩ hT hkeep hC hQ
    have hij : i < js.length := by rw [← hJ.1]; exact Nat.lt_of_lt_of_le hi0 (Nat.min_le_left ..)
    obtain ⟨⟨a, b⟩, hab⟩ : ∃ p, js[i] = p := ⟨_, rfl⟩
    have hjs : js[i]? = some (a, b) := by rw [List.getElem?_eq_getElem hij, hab]
    obtain ⟨q, tl, th, hxq, hq⟩ := hJ.2 i a b hjs
    rw [hX] at hxq
    cases hxq
    have hqlt : @LT.lt Nat _ q s.heap.objs.size := by obtain ⟨_, e, _⟩ := hq; exact Heap.lt_size e
    have hq' : h.IsTuple q #[.str ⟨#[a]⟩ tl, .str ⟨#[b]⟩ th] := hq.at fun o e => hkeep _ o (by
      simp only [List.mem_cons, List.not_mem_nil, or_false]
      rintro (h | h | h | h) <;> (have h' : @Eq Nat q _ := h; (first | lia | omega))) (hk₁ _ _ e)
    refine assign_Tuple_tuple hh hT rfl rfl fun h₅ he => ?_
    have he' : ∀ b o, h.get? b = some o → h₅.get? b = some o := fun b o e => he b o (Nat.ne_of_lt (Heap.lt_size e)) e
    refine assignInOrder_cons ?_
    refine assign_Tuple_tuple (x1 := k1) hh (hq'.at fun o e => he' _ o e) rfl rfl fun h₆ he₆ => ?_
    have he₆' : ∀ b o, h₅.get? b = some o → h₆.get? b = some o := fun b o e => he₆ b o (Nat.ne_of_lt (Heap.lt_size e)) e
    refine assignInOrder_cons (wpAny_assign_Name (wpAny_storeName_local (lookup_relabel_local hlo) ((hC.at' fun o e => he' _ o e).at' fun o e => he₆' _ o e) (fun h₇ hn₇ hs₇ => ?_) (by simp [compEnvC, relabel, hkind])))
    refine assignInOrder_cons (wpAny_assign_Name (wpAny_storeName_local (lookup_relabel_local hhi) hn₇ (fun h₈ hn₈ hs₈ => ?_) (by simp [compEnvC, relabel, hkind])))
    refine assignInOrder_nil ?_
    refine assignInOrder_cons (wpAny_assign_Name (wpAny_storeName_local (lookup_relabel_local hsi) hn₈ (fun h₉ hn₉ hs₉ => ?_) (by simp [compEnvC, relabel, hkind])))
    refine assignInOrder_nil (hQ h₉ _ _ hn₉ ⟨a, b, c, tl, th, u, hjs, hc, by simp [n1, n2], by simp [n3], by simp⟩ fun b o hb e => hs₉.extBut b o hb (hs₈.extBut b o hb (hs₇.extBut b o hb (he₆' b o (he' b o e)))))
  · rintro i C h tk m' Q' E' _ ⟨a, b, c, ta, tb, tc, hjs, hc, h1, h2, h3⟩ hC hQ
    refine judge_test hkind hlo hsi hhi hC h1 h3 h2 hd1 hd2 hd3 ?_
    have e : outside js x.cps.toList i = (!(decide (a ≤ c) && decide (c ≤ b))) := by
      unfold outside
      rw [show js.getD i (0, 0) = (a, b) by rw [List.getD_eq_getElem?_getD, hjs]; rfl, show x.cps.toList.getD i 0 = c by rw [List.getD_eq_getElem?_getD, Array.getElem?_toList, hc]; rfl]
    rw [← e]
    exact hQ _
  · rintro i C h tk m' Q' E' _ _ ⟨a, b, c, ta, tb, tc, hjs, hc, h1, h2, h3⟩ hC hQ
    exact cname hkind hsi hC h3 hd2 (hQ _ _ ⟨_, _, rfl⟩)
  · intro D' vals h tk hk hD hg hc
    rw [hJ.1] at hc
    refine hfin D' vals h tk (fun b o e => hk b o (fun hm => ?_) (hk₁ b o e)) ?_ hg hc
    · have hb : @LT.lt Nat _ b s.heap.objs.size := Heap.lt_size e
      simp only [List.mem_cons, List.not_mem_nil, or_false] at hm
      rcases hm with rfl | rfl | rfl | rfl <;> exact absurd hb (by first | exact Nat.lt_irrefl _ | (refine Nat.not_lt.mpr ?_; (first | lia | omega)))
    · cases e : s.heap.get? D' with
      | none => rfl
      | some o => rw [hk₁ _ _ e] at hD; cases hD
end
end Mine
end
section
namespace Mine
def fits (js : List (Nat × Nat)) (wd : List Nat) (q : Nat) : Bool := (List.range js.length).all fun i => !outside js (wd.drop q) i
def takesB (js : List (Nat × Nat)) (wd : List Nat) : Bool := (List.range (wd.length + 1 - js.length)).any (fits js wd)

theorem slice_from {x : Str} {k : Int} (h0 : 0 ≤ k) (h1 : k ≤ x.length) : (Txt.slice x (some k) none).cps.toList = x.cps.toList.drop k.toNat := by
  obtain ⟨n, rfl⟩ := Int.eq_ofNat_of_zero_le h0
  have hn : n ≤ x.cps.size := by have : (n : Int) ≤ (x.cps.size : Int) := h1; (first | lia | omega)
  have e : Builtin.Str.strSliceIndices (some (n : Int)) none 1 x.length = (List.range (x.length - n)).map (n + ·) := by
    unfold Builtin.Str.strSliceIndices
    have : max (0 : Int) (min (n : Int) (x.length : Int)) = (n : Int) := by
      have h2 : (n : Int) ≤ (x.length : Int) := h1
      (first | lia | omega)
    simp only [show ¬ ((n : Int) < 0) by (first | lia | omega), if_false, show (1 : Int) > 0 by decide, if_true, this]
    exact sliceRange_one n x.length
  unfold Txt.slice
  rw [e]
  by_cases hz : n = 0
  · subst hz
    rw [if_pos (by simp)]
    rfl
  · have hcond : ¬ (((1 : Int) == 1 && ((List.range (x.length - n)).map (n + ·)).length == x.length) = true) := by
      have : x.length = x.cps.size := rfl
      simp
      (first | lia | omega)
    rw [if_neg hcond]
    show ((List.range (x.length - n)).map (n + ·)).filterMap (x.cps[·]?) = _
    rw [pick_run, Int.toNat_natCast, List.take_of_length_le]
    have : x.length = x.cps.size := rfl
    simp
    (first | lia | omega)
section
variable {prog : Program} {w : World} {A : Around} {E : Value → Shared → Prop} {s : Shared}
theorem eq_nil {D l : Addr} {vals : List Value} {n1 n2 : Nat} {Q : Value → Shared → Prop} (hl : s.heap.get? D = some (listOf vals.toArray n1)) (hb : s.heap.get? l = some (listOf #[] n2)) (hu : A.units < cLine) (h : Q (.bool vals.isEmpty) s) :
    wpAny (model prog w) A (compareOp .Eq (.ref D) (.ref l)) Q E s := by
  cases vals with
  | nil => exact PySem.P.eq_list (e := fun _ => true) hl hb rfl (fun j h1 => absurd h1 (Nat.not_lt_zero _)) hu h
  | cons v vs => exact PySem.P.eq_list_lengths hl hb (by simp) hu h
end
theorem coll_empty {test : Nat → Bool} {val : Nat → Value → Prop} {n : Nat} {ys : List Value} (c : Coll test val n ys) : ys.isEmpty = (List.range n).all fun i => !test i := by
  induction c with
  | zero => rfl
  | @skip i ys _ h ih => rw [List.range_succ, List.all_append, ← ih]; simp [h]
  | @take i ys v _ h _ ih => rw [List.range_succ, List.all_append]; simp [h]
theorem takes_true {js : List (Nat × Nat)} {wd : List Nat} {q : Nat} (h : fits js wd q = true) (hq : q < wd.length + 1 - js.length) : takesB js wd = true :=
  List.any_eq_true.mpr ⟨q, List.mem_range.mpr hq, h⟩
theorem takes_false {js : List (Nat × Nat)} {wd : List Nat} (h : ∀ i, i < wd.length + 1 - js.length → fits js wd i = false) : takesB js wd = false := by
  unfold takesB
  rw [List.any_eq_false]
  intro i hi
  rw [h i (List.mem_range.mp hi)]
  exact Bool.false_ne_true
theorem tk_min {a b n p : Nat} {k : Int} (hy : n = b - k.toNat) (h0 : 0 ≤ k) (hk : k = 0 + (p : Int)) (hp : p < b + 1 - a) : min a n = a := by (first | lia | omega)
theorem tk_n {a b : Nat} : (if (0 : Int) < (b : Int) - (a : Int) + 1 then (b : Int) - (a : Int) + 1 else 0) = ((b + 1 - a : Nat) : Int) := by
  split <;> (first | lia | omega)
theorem takes_spec {w : World} {dp un : Nat} {fr : Option (List Env)} {gd : Option (List Code)} {p : Program} {loose : List Str} {mean : ExcName → Option Value} {mg mb : Str → Option Value} {s : Shared} {j : Addr} {vs : List Value} {js : List (Nat × Nat)} {x : Str} {tx : Tok} {Q E : Value → Shared → Prop} :
   (hd.heap_39 w.params).In s.heap → Top p loose mean mg mb s.heap → dp + 10 < recursionLimit → un + 40 < cLine →
   s.heap.IsList j vs.toArray → JAt s.heap vs.toArray js → js.length ≤ 10 → x.cps.all (· < 128) = true → x.cps.size ≤ 1000 →
   (∀ h' tk', (∀ b o, s.heap.get? b = some o → h'.get? b = some o) → Q (.bool (takesB js x.cps.toList)) { s with heap := h', toks := tk' }) →
   wpAny (model PySem.Challenge.rw_in0246_01.row.prog w) ⟨none, dp, fr, gd, un⟩ (call (.ref 154) [.ref j, .str x tx]) Q E s := by
  k_with_none
  k_fill
  (k_with "exec For Name Subscript cons nil" => (k_here; (rename Fr _ _ _ _ => lF'); (with_unfolding_all refine' For_invVF lF' ?k1 ?k2 ?_; (case k1 => exact rfl); (case k2 => exact rfl); k_whole)))
  (k_with "execs cons" => (first | (k_here; k_gentoks) | ((with_reducible refine Mine.execs_nx ?_); (try dsimp only))))
  (k_with "WhlPost" => dsimp only [Mine.Nx])
  (k_with "KswPost" => dsimp only [Mine.Nx])
  (k_with "InvPostN" => dsimp only [Mine.Nx])
  (k_with "UnrPost" => dsimp only [Mine.Nx])
  (k_with "storeName" => dsimp only)
  (k_with "eval ListComp" => refine Mine.hold ?_)
  (k_with "call type:zip" => refine Mine.hold ?_)
  intro X T hdp hun hl hJ hjl hasc hxl hret
  k_dflt ((refine' Mine.enter (by assumption) (by assumption) ?ck ?cs ?ho ?hcd ?hroom ?hbind ?hloc ?c2 ?c3 ?c4 ?c5 ?_; (case ho => k_is); (case hcd => k_is); (case hbind => exact BindsTo.of_eq rfl); (case hloc => exact locs rfl); (case c2 => exact rfl); (case c3 => exact rfl); (case c4 => exact rfl); (case c5 => decide)))
  case ck => exact fun _ _ e => e
  case cs => exact Nat.le_refl _
  case hroom => exact Mine.rm (j := 0) hdp rfl
  intro L h₁ hL F hk
  have N : News s.heap L h₁ [] := News.nil
  have hvl : vs.length = js.length := by have := hJ.1; simpa using this
  have hxl2 : x.length ≤ 1000 := hxl
  clear hL hk
  (try dsimp only)
  (try k_fold)
  k_steps
  rename Fr _ _ _ _ => F'
  have hl' := hl.at fun o e => F'.keep j o e
  refine PyProof.Rows.len_list hl' (by rw [List.size_toArray, hvl]; (first | lia | omega)) ?_
  rw [List.size_toArray, hvl]
  (k_with "pyIter ref" => refine hold ?_)
  k_steps
  refine unhold ?_
  rename IsRange _ _ _ _ _ _ _ _ => hR
  rename Fr _ _ _ _ => F'
  rename News _ _ _ _ => N'
  with_unfolding_all refine' kst_range (σ := Unit) (n := x.length + 1 - js.length) (fun _ => []) (fun _ => []) (fun _ => True) [] (fun pre _ => ∀ i, i < pre.length → fits js x.cps.toList i = false) () ?hh hR ?hsm ?hn F' N' trivial ?hk ?hp ?turn ?done
  case hh => rfl
  case hsm => exact small_one (by (first | lia | omega)) (by (first | lia | omega)) (by (first | lia | omega)) (by (first | lia | omega))
  case hn => (simp [Builtin.Range.rangeSize]; first | exact tk_n | (first | lia | omega))
  case hk => (intro q hq; cases hq)
  case hp => (intro i hi; simp at hi)
  case turn =>
    intro c pre k t u h tk own hkp hpn hoff _ hpre F9 N9
    dsimp only [kstB, List.nil_append] at F9 N9
    (try k_fold)
    clear F' N' hR hl'
    have hk0 : 0 ≤ k := by (first | lia | omega)
    have hk1 : k ≤ x.length := by (first | lia | omega)
    k_steps
    refine unhold ?_
    k_dflt (refine' comp_T ?c1 ?c2 ?c3 ?c4 ?_)
    case c1 => with_unfolding_all rfl
    case c2 => decide
    case c3 => rfl
    case c4 => decide
    k_steps
    refine unhold ?_
    rename Fr _ _ _ _ => F'
    rename News _ _ _ _ => N'
    have hsl := slice_from hk0 hk1
    have hasl : (Txt.slice x (some k) none).cps.all (· < 128) = true := by
      rw [← Array.all_toList, hsl]
      rw [← Array.all_toList] at hasc
      exact List.all_eq_true.mpr fun c hc => List.all_eq_true.mp hasc c (List.mem_of_mem_drop hc)
    generalize Txt.slice x (some k) none = y at *
    with_unfolding_all refine' takes_src ?hh (hl.at fun o e => F'.keep j o e) (hJ.keeps F'.keep) hasl ?hk ?h1 ?h2 ?h3 ?n1 ?n2 ?n3 ?d1 ?d2 ?d3 ?hsz ?hf
    case hh => rfl
    case hk => rfl
    case h1 => rfl
    case h2 => rfl
    case h3 => rfl
    case n1 => decide
    case n2 => decide
    case n3 => decide
    case d1 => decide
    case d2 => decide
    case d3 => decide
    case hsz => (first | lia | omega)
    case hf =>
      intro D vals h8 tk8 hk8 hD8 hg8 hc8
      have F8 := fr_keep F' hk8
      have N8 := news_new F' N' hk8 hD8 hg8
      clear F' N' hk8 hD8 hg8
      k_steps
      rename Fr _ _ _ _ => F'
      rename News _ _ _ _ => N'
      refine eq_nil (News.get N' (.tail _ (.head _))) (News.get N' (.head _)) (by show un + 3 < _; (first | lia | omega)) ?_
      have hys : y.cps.size = x.length - k.toNat := by
        rw [← Array.length_toList, hsl, List.length_drop, Array.length_toList]; rfl
      have he : vals.isEmpty = fits js x.cps.toList k.toNat := by
        rw [coll_empty hc8, show min js.length y.cps.size = js.length from tk_min (by assumption) hk0 (by assumption) (by assumption), hsl]
        rfl
      rw [he]
      have word : fits js x.cps.toList k.toNat = false → ∀ i, i < (pre ++ [k]).length → fits js x.cps.toList i = false := by
        intro h0 i hi
        rw [List.length_append, List.length_singleton] at hi
        rcases Nat.lt_succ_iff_lt_or_eq.mp hi with h | h
        · exact hpre i h
        · rw [h, show pre.length = k.toNat by (first | lia | omega)]; exact h0
      cases hfit : fits js x.cps.toList k.toNat with
      | true =>
        k_steps
        have ht := takes_true hfit (by rw [Array.length_toList]; show k.toNat < x.length + 1 - js.length; (first | lia | omega))
        rename Fr _ _ _ _ => F'
        exact ht ▸ hret _ _ F'.keep
      | false =>
        (k_with "state" => exact word hfit)
        k_steps
  case done =>
    intro c u h tk _ hpre F9 N9
    dsimp only
    k_steps
    rename Fr _ _ _ _ => F'
    have ht : takesB js x.cps.toList = false := takes_false fun i hi => hpre i (by rw [rangeKs_length]; rw [Array.length_toList] at hi; exact hi)
    exact ht ▸ hret _ _ F'.keep
end Mine
end
section
namespace Mine
theorem patterns2_spec {w : World} {dp un : Nat} {fr : Option (List Env)} {gd : Option (List Code)} {p : Program} {loose : List Str} {mean : ExcName → Option Value} {mg mb : Str → Option Value} {s : Shared} {l : Addr} {a b : Int} {ta tb : Tok} {Q E : Value → Shared → Prop} :
   (hd.heap_39 w.params).In s.heap → Top p loose mean mg mb s.heap → dp + 10 < recursionLimit → un + 40 < cLine →
   s.heap.IsList l #[.int a ta, .int b tb] → 1 ≤ a → a ≤ 9 → 1 ≤ b → b ≤ 9 →
   (∀ r t n' h' tk', (∀ b o, s.heap.get? b = some o → h'.get? b = some o) → s.heap.get? r = none → h'.get? r = some (listOf #[.str ⟨#[42, (65 + a).toNat, 91, (65 + b).toNat, 45, (65 + a).toNat, 93, 42]⟩ t] n') → Q (.ref r) { s with heap := h', toks := tk' }) →
   wpAny (model PySem.Challenge.rw_in0246_01.row.prog w) ⟨none, dp, fr, gd, un⟩ (call (.ref 142) [.ref l]) Q E s := by
  k_with_none
  k_fill
  (k_with "exec For Name Subscript cons nil" => (k_here; (rename Fr _ _ _ _ => lF'); (with_unfolding_all refine' For_invVF lF' ?k1 ?k2 ?_; (case k1 => exact rfl); (case k2 => exact rfl); k_whole)))
  (k_with "execs cons" => (first | (k_here; k_gentoks) | ((with_reducible refine Mine.execs_nx ?_); (try dsimp only))))
  (k_with "WhlPost" => dsimp only [Mine.Nx])
  (k_with "KswPost" => dsimp only [Mine.Nx])
  (k_with "InvPostN" => dsimp only [Mine.Nx])
  (k_with "UnrPost" => dsimp only [Mine.Nx])
  (k_with "storeName" => dsimp only)
  (k_with "binaryOp Add str str" => dsimp only)
  intro X T hdp hun ha ha0 ha1 hb0 hb1 hret
  k_dflt ((refine' Mine.enter (by assumption) (by assumption) ?ck ?cs ?ho ?hcd ?hroom ?hbind ?hloc ?c2 ?c3 ?c4 ?c5 ?_; (case ho => k_is); (case hcd => k_is); (case hbind => exact BindsTo.of_eq rfl); (case hloc => exact locs rfl); (case c2 => exact rfl); (case c3 => exact rfl); (case c4 => exact rfl); (case c5 => decide)))
  case ck => exact fun _ _ e => e
  case cs => exact Nat.le_refl _
  case hroom => exact Mine.rm (j := 0) hdp rfl
  intro L h₁ hL F hk
  have N : News s.heap L h₁ [] := News.nil
  clear hL hk
  (try dsimp only)
  (try k_fold)
  k_steps
  rename Fr _ _ _ _ => F'
  rename News _ _ _ _ => N'
  exact hret _ _ _ _ _ F'.keep (N' _ (.head _)).2.2 (News.get N' (.head _))
theorem patterns3_spec {w : World} {dp un : Nat} {fr : Option (List Env)} {gd : Option (List Code)} {p : Program} {loose : List Str} {mean : ExcName → Option Value} {mg mb : Str → Option Value} {s : Shared} {l : Addr} {a b c : Int} {ta tb tc : Tok} {Q E : Value → Shared → Prop} :
   (hd.heap_39 w.params).In s.heap → Top p loose mean mg mb s.heap → dp + 10 < recursionLimit → un + 40 < cLine →
   s.heap.IsList l #[.int a ta, .int b tb, .int c tc] → 1 ≤ a → a ≤ 9 → 1 ≤ b → b ≤ 9 → 1 ≤ c → c ≤ 9 →
   (∀ r t t2 n' h' tk', (∀ b o, s.heap.get? b = some o → h'.get? b = some o) → s.heap.get? r = none → h'.get? r = some (listOf #[.str ⟨#[42, (65 + a).toNat, 91, (66 + b).toNat, 45, (65 + a).toNat, 93, 42]⟩ t, .str ⟨#[42, (65 + a).toNat, (65 + b).toNat, 91, (65 + c).toNat, 45, (65 + a).toNat, 93, 42]⟩ t2] n') → Q (.ref r) { s with heap := h', toks := tk' }) →
   wpAny (model PySem.Challenge.rw_in0246_01.row.prog w) ⟨none, dp, fr, gd, un⟩ (call (.ref 142) [.ref l]) Q E s := by
  k_with_none
  k_fill
  (k_with "exec For Name Subscript cons nil" => (k_here; (rename Fr _ _ _ _ => lF'); (with_unfolding_all refine' For_invVF lF' ?k1 ?k2 ?_; (case k1 => exact rfl); (case k2 => exact rfl); k_whole)))
  (k_with "execs cons" => (first | (k_here; k_gentoks) | ((with_reducible refine Mine.execs_nx ?_); (try dsimp only))))
  (k_with "WhlPost" => dsimp only [Mine.Nx])
  (k_with "KswPost" => dsimp only [Mine.Nx])
  (k_with "InvPostN" => dsimp only [Mine.Nx])
  (k_with "UnrPost" => dsimp only [Mine.Nx])
  (k_with "storeName" => dsimp only)
  (k_with "binaryOp Add str str" => dsimp only)
  intro X T hdp hun ha ha0 ha1 hb0 hb1 hc0 hc1 hret
  k_dflt ((refine' Mine.enter (by assumption) (by assumption) ?ck ?cs ?ho ?hcd ?hroom ?hbind ?hloc ?c2 ?c3 ?c4 ?c5 ?_; (case ho => k_is); (case hcd => k_is); (case hbind => exact BindsTo.of_eq rfl); (case hloc => exact locs rfl); (case c2 => exact rfl); (case c3 => exact rfl); (case c4 => exact rfl); (case c5 => decide)))
  case ck => exact fun _ _ e => e
  case cs => exact Nat.le_refl _
  case hroom => exact Mine.rm (j := 0) hdp rfl
  intro L h₁ hL F hk
  have N : News s.heap L h₁ [] := News.nil
  clear hL hk
  (try dsimp only)
  (try k_fold)
  k_steps
  change wpAny _ _ (call (Value.builtin "chr") [Value.int (66 + b) _]) _ _ _
  k_steps
  rename Fr _ _ _ _ => F'
  rename News _ _ _ _ => N'
  exact hret _ _ _ _ _ _ F'.keep (N' _ (.head _)).2.2 (News.get N' (.head _))
end Mine
end
section
namespace Mine
open PySem.Calls PySem.Spec PySem.Builtin PySem.Builtin.ObjectAttr
def bmObj (l : Addr) : Obj := { cls := .type "builtin_function_or_method", data := .fields #[.builtin "list.append", .ref l] }
theorem bm_slot : Slot "method_descriptor" "__get__" "method_descriptor.__get__" :=
  .of (owner := "method_descriptor") (n := "__get__") (by rw [typeLookup_type, builtinLookup_eq_fast]; kernel_rfl) (by decide +kernel) (by decide +kernel) (by decide +kernel)
    (by first | exact .inl (by decide +kernel) | exact .inr (by decide +kernel)) (by rw [isSubtype_type]; kernel_rfl)
theorem bm_entry : entryFor table "method_descriptor.__get__" = some Builtin.«method_descriptor.__get__» := entryFor_of_tree (by kernel_rfl)
theorem bm_args (a b c : Value) : argsOk "method_descriptor.__get__" ⟨[a, b, c], []⟩ := by unfold argsOk; kernel_rfl
theorem bm_type : typeOf (.builtin "list.append") = pure (.type "method_descriptor") := by show builtinType _ = _; rw [builtinType_eq_fast]; kernel_rfl
theorem bm_look : typeLookup (.type "list") "append" = pure (some (.builtin "list.append")) := by rw [typeLookup_type, builtinLookup_eq_fast]; kernel_rfl
theorem bm_get : typeLookup (.type "method_descriptor") "__get__" = pure (some (.builtin "method_descriptor.__get__")) := by rw [typeLookup_type, builtinLookup_eq_fast]; kernel_rfl
theorem bm_set : typeLookup (.type "method_descriptor") "__set__" = pure none := by rw [typeLookup_type, builtinLookup_eq_fast]; kernel_rfl
theorem bm_del : typeLookup (.type "method_descriptor") "__delete__" = pure none := by rw [typeLookup_type, builtinLookup_eq_fast]; kernel_rfl
theorem bm_list : isSubtype (.type "list") (.type "list") = pure true := by rw [isSubtype_type]; kernel_rfl
section
variable {prog : Program} {w : World} {M : Model} {A : Around} {E : Value → Shared → Prop} {s : Shared}
theorem bm_check (a : Addr) : (kfb_private% "checkInstance") (.builtin "list.append") (.ref a) = (do
      if !(← isInstance (.ref a) (.type "list")) then
        rule "descr.get.wrong-instance"
        raiseError "TypeError" s!"descriptor '{("append" : Str).toString}' for '{← typeName (.type "list")}' objects doesn't apply to a '{← typeNameOf (.ref a)}' object") := by
  first | rfl | kernel_rfl
theorem bm_run {P : Fin → Shared → Prop} {a : Addr} (hT : s.TypeIs (.ref a) "list") (h : P (.done (.ret (.ref s.heap.objs.size))) { s with heap := s.heap.push (bmObj a) }) :
    wpAny M A (Builtin.«method_descriptor.__get__» ⟨[.builtin "list.append", .ref a, .type "list"], []⟩) P E s := by
  unfold Builtin.«method_descriptor.__get__»
  refine wpAny_bind (wpAny_of_eq (a := (.builtin "list.append", some (.ref a), some (.type "list"))) (by first | rfl | kernel_rfl) ?_)
  dsimp only
  rw [if_neg (by decide +kernel)]
  show wpAny M A ((kfb_private% "checkInstance") (.builtin "list.append") (.ref a) >>= fun _ => newFields "builtin_function_or_method" [.builtin "list.append", .ref a] >>= fun v => ret v) P E s
  rw [bm_check]
  refine wpAny_bind (wpAny_bind (wpAny_isInstance hT bm_list ?_))
  refine wpAny_pure ?_
  exact wpAny_bind (wpAny_newObj_type (wpAny_pure h))
theorem bm_attr {a : Addr} {xs : Array Value} {k : Nat} {Q : Value → Shared → Prop} (hx : s.heap.get? a = some (listOf xs k))
    (h : Q (.ref s.heap.objs.size) { s with heap := s.heap.push (bmObj a), toks := s.toks + 1 }) :
    wpAny (model prog w) A (getAttr (.ref a) "append" true) Q E s := by
  obtain ⟨hp, g, d, tk, os⟩ := s
  have hT : ∀ tk', (⟨hp, g, d, tk', os⟩ : Shared).TypeIs (.ref a) "list" := fun _ => ⟨_, hx, rfl⟩
  have f3 := PySem.F.slot_list_getattribute.lookup
  have f4 := PySem.F.slot_list_getattribute.bind (.ref a)
  have f5 := am_list_getattr_none
  have hx : hp.get? a = some { cls := .type "list", data := .seq xs k } := hx
  unfold getAttr getAttrBy
  repeat (any_goals (first | assumption | exact hT _ | ((with_reducible show wpAny _ _ (call (Value.builtin "list.__getattribute__") _ _) _ _ _); refine wpAny_call_entry PySem.F.slot_list_getattribute (hT _) am_entry_list_getattribute ?_ (PySem.F.args_list_getattribute_2 _ _)) | wp_step))
  have g1 := bm_type
  have g2 := bm_look
  have g3 := bm_get
  have g4 := bm_set
  have g5 := bm_del
  repeat (any_goals (first | assumption | exact hT _ | ((with_reducible show wpAny _ _ (call (Value.builtin "method_descriptor.__get__") _ _) _ _ _); refine wpAny_call_entry bm_slot bm_type bm_entry (bm_run (hT _) ?_) (bm_args _ _ _); refine ⟨_, rfl, wpAny_pure ⟨_, rfl, ?_⟩⟩) | wp_step))
theorem bm_kind : builtinKind "list.append" = some .method := by first | decide +kernel | kernel_rfl
theorem bm_modules : isSubtype (.type "list") (.type "module") = pure false := by rw [isSubtype_type]; kernel_rfl
theorem bm_types : isSubtype (.type "list") (.type "type") = pure false := by rw [isSubtype_type]; kernel_rfl
theorem bm_varargs : Manifest.varargsMethods.contains "list.append" = false := by decide +kernel
theorem bm_sig : ∃ sig, Manifest.signature? "list.append" = some sig ∧ ∀ (a : Addr) (v : Value), Bind.checkArgs "list.append" { sig with full := s!"{Bind.lastOf "list"}.{Bind.lastOf "list.append"}" } ⟨[.ref a, v], []⟩ = pure () := by
  rw [signature?_of (id := "list.append") (n := ['d', 'n', 'e', 'p', 'p', 'a']) (o := ['t', 's', 'i', 'l']) (by kernel_rfl) PySem.F.owner_list]
  have h : (List.lookup (String.ofList ['d', 'n', 'e', 'p', 'p', 'a'].reverse) Manifest.sig_list).isSome = true := by kernel_rfl
  exact ⟨Option.get _ h, (Option.some_get h).symm, fun a v => by kernel_rfl⟩
theorem bm_bound {a : Addr} {xs : Array Value} {k : Nat} {v : Value} {Q : Unit → Shared → Prop} (hx : s.heap.get? a = some (listOf xs k)) (h : Q () s) : wpAny M A (checkBoundCall "list.append" ⟨[.ref a, v], []⟩) Q E s := by
  obtain ⟨sig, h1, h2⟩ := bm_sig
  have hT : s.TypeIs (.ref a) "list" := ⟨_, hx, rfl⟩
  unfold checkBoundCall
  rw [h1, bm_kind]
  dsimp only
  rw [if_neg (by decide)]
  refine wpAny_bind (wpAny_isInstance hT bm_modules ?_)
  rw [bm_varargs]
  rw [if_neg (by decide)]
  obtain ⟨hp, g, d, tk, os⟩ := s
  have hT' : ∀ tk', (⟨hp, g, d, tk', os⟩ : Shared).TypeIs (.ref a) "list" := fun _ => ⟨_, hx, rfl⟩
  have hx : hp.get? a = some { cls := .type "list", data := .seq xs k } := hx
  unfold isType
  repeat (any_goals (first | exact wpAny_of_eq (h2 a v) h | assumption | exact hT' _ | wp_step))
theorem bm_quiet {as : Args} : (Code.builtin "list.append" as).quiet = true := Code.quiet_builtin _ (by decide +kernel)
theorem bm_append_at {q D : Addr} {its : Array Value} {n : Nat} {x : Value} {Q : Value → Shared → Prop} (hq : s.heap.get? q = some (bmObj D)) (ho : s.heap.get? D = some (listOf its n))
    (h : ∀ h', Heap.SameBut D s.heap h' → h'.get? D = some (listOf (its.push x) (n + 1)) → Q .none { s with heap := h' }) (hsz : its.size ≤ sizeLine) :
    wpAny (model prog w) A (call (.ref q) [x]) Q E s := by
  refine wpAny_call (codeAny_of_tree ?_)
  show wpAny _ A.in1 (callAny (.ref q) ⟨[x], []⟩) _ _ s
  simp only [callAny]
  refine wpAny_bind (wpAny_load hq ?_)
  simp only [bmObj, show (Value.type "builtin_function_or_method" == Value.type "method" || Value.type "builtin_function_or_method" == Value.type "builtin_function_or_method" || Value.type "builtin_function_or_method" == Value.type "method-wrapper") = true by decide, if_true]
  refine KFB.if_so (by decide) ?_
  refine wpAny_bind (bm_bound ho ?_)
  refine wpAny_bind (wpAny_pure (wpAny_pure ?_))
  refine ⟨bm_quiet, codeAny_builtin entry_list_append ?_⟩
  show wpAny _ _ (updateSeq D (·.push x) >>= fun _ => ret .none) _ _ s
  refine wpAny_bind ?_
  refine wpAny_updateSeq ho rfl (wpAny_pure (h _ (Heap.SameBut.update ..) ?_))
  rw [Heap.get?_update_self _ ho (by rw [mapSeq_push]; rfl), mapSeq_push]
def BmAt (q l : Addr) (h : Heap) : Prop := h.get? q = some (bmObj l)
theorem bm_with {h₀ : Heap} {L q l : Addr} {news : List (Addr × Obj)} {pos : Pos} {first : List Value} {env : Env} {e : Expr} {rest : List Expr} {Q : Value → Shared → Prop} (_N : News h₀ L s.heap news) (_hm : (q, bmObj l) ∈ news)
    (h : wpAny M A (spliced (backTo pos (starEach (e :: rest) env))) (fun vs s₁ => BmAt q l s₁.heap ∧ wpAny M A (call (.ref q) (first ++ vs)) Q E s₁) E s)
    (he : starEach (e :: rest) env = (false, eval e env) :: starEach rest env := by rfl) (hplain : (backTo pos (starEach rest env)).any (·.1) = false := by rfl) :
    wpAny M A (callWith pos (.ref q) first (backTo pos (starEach (e :: rest) env)) []) Q E s := by
  rw [he] at h ⊢
  exact callWith_of (P := BmAt q l) (by show ((false || (backTo pos (starEach rest env)).any (·.1)) || false) = false; rw [hplain]; rfl)
    (fun h hx => ⟨.machine, .inr (.inl rfl), (Looks.ld (part := none) hx).andThen .now⟩) (evalArgs_plain h)
section
variable {h₀ : Heap} {L q D : Addr} {m : Str → Option Value} {news news' : List (Addr × Obj)} {its : Array Value} {n : Nat}
theorem bm_make {Q : Value → Shared → Prop} (F : Fr h₀ L s.heap m) (N : News h₀ L s.heap news) (hm : (D, listOf its n) ∈ news)
    (h : ∀ q h', Fr h₀ L h' m → News h₀ L h' ((q, bmObj D) :: news) → (∀ p ∈ news, p.1 < q) → Q (.ref q) { s with heap := h', toks := s.toks + 1 }) :
    wpAny (model prog w) A (getAttr (.ref D) "append" true) Q E s :=
  bm_attr (N _ hm).1 (h _ _ (F.push _) (News.push F N _) fun p hp => Heap.lt_size (N p hp).1)
theorem bm_append {x : Value} {Q : Value → Shared → Prop} (F : Fr h₀ L s.heap m) (N : News h₀ L s.heap news) (hq : (q, bmObj D) ∈ news) (U : Upd D (listOf its n) (listOf (its.push x) (n + 1)) news news')
    (h : ∀ h', Fr h₀ L h' m → News h₀ L h' news' → Q .none { s with heap := h' }) (hsz : its.size ≤ sizeLine := by size_fits) : wpAny (model prog w) A (call (.ref q) [x]) Q E s := by
  obtain ⟨pre, post, rfl, rfl, a, b⟩ := U.split
  have z := N (D, listOf its n) (List.mem_append.mpr (.inr (.head _)))
  exact bm_append_at (N _ hq).1 z.1 (fun h' hs ho' => h h' (F.change hs z.2.1 z.2.2) (news_set N a b hs ho')) hsz
end
end
end Mine
end
section
namespace Mine
theorem lit_star : Str.ofString "*" = ⟨#[42]⟩ := by decide
theorem lit_quest : Str.ofString "?" = ⟨#[63]⟩ := by decide
theorem lit_open : Str.ofString "[" = ⟨#[91]⟩ := by decide
theorem lit_close : Str.ofString "]" = ⟨#[93]⟩ := by decide
theorem lit_bang : Str.ofString "!" = ⟨#[33]⟩ := by decide
theorem lit_hat : Str.ofString "^" = ⟨#[94]⟩ := by decide
theorem one_ne {c d : Nat} {y : Str} (hy : y = ⟨#[d]⟩) (h : c ≠ d) : (((⟨#[c]⟩ : Str).cps.toList) == y.cps.toList) = false := by
  subst hy
  simpa using h
theorem one_eq {c d : Nat} {y : Str} (hy : y = ⟨#[d]⟩) (h : c = d) : (((⟨#[c]⟩ : Str).cps.toList) == y.cps.toList) = true := by
  subst hy
  simpa using h
open PySem.Builtin PySem.Builtin.Str in
def findB (x y : Str) (i j : Int) : Int := match occurrences x y (fromIndex x.length i) (min (fromIndex x.length j) x.length) 1 with | k :: _ => (k : Int) | [] => -1
open PySem.Builtin PySem.Builtin.Str in
theorem gives_find4 (x y : Str) (i j : Int) (t u v v2 : Tok) : Gives («str.find» ⟨[.str x t, .str y u, .int i v, .int j v2], []⟩) (.int (findB x y i j)) := by
  show Gives (match occurrences x y (fromIndex x.length i) (min (fromIndex x.length j) x.length) 1 with | k :: _ => retInt k | [] => (do rule "str.find.not-found"; retInt (-1))) _
  unfold findB
  cases occurrences x y (fromIndex x.length i) (min (fromIndex x.length j) x.length) 1 with
  | nil => exact .rule (.of_eq rfl)
  | cons k _ => exact .of_eq rfl
theorem letters2 {P : Nat → Nat → Prop} (h : ∀ a b : Fin 11, P (66 + a.val) (66 + b.val)) {x y : Nat} (hx0 : 66 ≤ x) (hx : x ≤ 76) (hy0 : 66 ≤ y) (hy : y ≤ 76) : P x y := by
  have := h ⟨x - 66, by (first | lia | omega)⟩ ⟨y - 66, by (first | lia | omega)⟩
  dsimp only at this
  rwa [show 66 + (x - 66) = x by (first | lia | omega), show 66 + (y - 66) = y by (first | lia | omega)] at this
theorem dash_in {x y : Nat} (hx0 : 66 ≤ x) (hx : x ≤ 76) (hy0 : 66 ≤ y) (hy : y ≤ 76) : Txt.contains ⟨#[y, 45, x]⟩ (Str.ofString "-") = true :=
  letters2 (P := fun x y => Txt.contains ⟨#[y, 45, x]⟩ (Str.ofString "-") = true) (by decide +kernel) hx0 hx hy0 hy
theorem find2a {x y : Nat} (hx0 : 66 ≤ x) (hx : x ≤ 76) (hy0 : 66 ≤ y) (hy : y ≤ 76) : findB ⟨#[42, x, 91, y, 45, x, 93, 42]⟩ (Str.ofString "-") 4 6 = 4 :=
  letters2 (P := fun x y => findB ⟨#[42, x, 91, y, 45, x, 93, 42]⟩ (Str.ofString "-") 4 6 = 4) (by decide +kernel) hx0 hx hy0 hy
theorem find2b {x y : Nat} (hx0 : 66 ≤ x) (hx : x ≤ 76) (hy0 : 66 ≤ y) (hy : y ≤ 76) : findB ⟨#[42, x, 91, y, 45, x, 93, 42]⟩ (Str.ofString "-") 7 6 = -1 :=
  letters2 (P := fun x y => findB ⟨#[42, x, 91, y, 45, x, 93, 42]⟩ (Str.ofString "-") 7 6 = -1) (by decide +kernel) hx0 hx hy0 hy
section
variable {prog : Program} {w : World} {A : Around} {E : Value → Shared → Prop} {s : Shared}
theorem len_lit {x : Str} {t : Tok} {n : Nat} {Q : Value → Shared → Prop} (hn : x.cps.size = n) (h : Q (.int (n : Int) (s.toks + 1)) { s with toks := s.toks + 1 + 1 }) (hs : n ≤ 100) : wpAny (model prog w) A (call (.builtin "len") [.str x t]) Q E s := by
  subst hn
  exact PySem.P.len_str (by have : x.length = x.cps.size := rfl; (first | lia | omega)) h
theorem eq_lit {x y : Str} {t u : Tok} {b : Bool} {Q : Value → Shared → Prop} (hb : (x.cps.toList == y.cps.toList) = b) (h : Q (.bool b) s) : wpAny (model prog w) A (compareOp .Eq (.str x t) (.str y u)) Q E s := by
  subst hb
  exact PySem.P.eq_str h
theorem ne_lit {x y : Str} {t u : Tok} {b : Bool} {Q : Value → Shared → Prop} (hb : (x.cps.toList == y.cps.toList) = b) (h : Q (.bool (!b)) s) : wpAny (model prog w) A (compareOp .NotEq (.str x t) (.str y u)) Q E s := by
  subst hb
  exact PySem.P.ne_str h
theorem notin_lit {x y : Str} {t u : Tok} {b : Bool} {Q : Value → Shared → Prop} (hb : Txt.contains x y = b) (h : Q (.bool (!b)) s) : wpAny (model prog w) A (compareOp .NotIn (.str y u) (.str x t)) Q E s := by
  subst hb
  exact PySem.P.notIn_str h
theorem find_lit {x y : Str} {t u v v2 : Tok} {i j r : Int} {Q : Value → Shared → Prop} (hr : findB x y i j = r) (h : Q (.int r s.toks) { s with toks := s.toks + 1 }) : wpAny (model prog w) A (call (.builtin "str.find") [.str x t, .str y u, .int i v, .int j v2]) Q E s := by
  subst hr
  exact call_gives PySem.F.slot_str_find (typeIs_str _ _ _) PySem.F.entry_str_find (PySem.F.args_str_find_4 _ _ _ _) (gives_find4 x y i j t u v v2) h
theorem truthy_one {c : Nat} {t : Tok} {Q : Bool → Shared → Prop} (h : Q true { s with toks := s.toks + 1 + 1 }) : wpAny (model prog w) A (truthy (.str ⟨#[c]⟩ t)) Q E s := PySem.P.truthy_str (by show ¬ ((1 : Nat) : Int) ≥ 2 ^ 63; decide) h
theorem item_pos {value slice : Expr} {x : Str} {t u : Tok} {i : Int} {n c : Nat} {rest : List Nat} {Q : Value → Shared → Prop} (hc : x.cps.toList.drop i.toNat = c :: rest) (h0 : 0 ≤ i) (h1 : i < n) (hx : x.cps.size = n) (hn : n ≤ 100)
    (h : Q (.str ⟨#[c]⟩ s.toks) { s with toks := s.toks + 1 })
    (hs : subscripted slice false (.str x t) (.int i u) = operate [.str x t, .int i u] (getItem (.str x t) (.int i u)) := by with_unfolding_all rfl)
    (ht : ∀ r, letTemporaryGo value (.str x t) r = pure () := by intro _; with_unfolding_all rfl) :
    wpAny (model prog w) A (subscriptTail value slice (.str x t) (.int i u)) Q E s := by
  obtain ⟨k, rfl⟩ := Int.eq_ofNat_of_zero_le h0
  refine KXi.item (n := n) hx (by (first | lia | omega)) h1 (by (first | lia | omega)) (fun _ => ?_) hs ht
  have hk : k < n := by (first | lia | omega)
  have hg : x.cps[k]? = some c := by
    have : x.cps.toList[k]? = some c := by
      have h2 := congrArg (fun l => l[0]?) hc
      simpa using h2
    simpa using this
  have : Txt.item x (k : Int) = ⟨#[c]⟩ := by
    have hl : x.length = n := hx
    have hs : seqIndex? (k : Int) x.length = some k := by
      rw [hl]
      have hj : (if (k : Int) < 0 then (k : Int) + (n : Int) else k) = k := if_neg (by (first | lia | omega))
      unfold seqIndex?
      dsimp only
      rw [hj, if_pos (by simp; (first | lia | omega))]
      rfl
    unfold Txt.item Txt.charAt
    rw [hs]
    simp [hg]
  rw [this]
  exact h
end
end Mine
end
section
namespace Mine
open PySem.Calls PySem.Spec PySem.Builtin
theorem lookupError_of_keyError : isSubtype (.type "KeyError") (.type "LookupError") = pure true := by rw [isSubtype_type]; kernel_rfl
section
variable {prog : Program} {w : World} {A : Around} {E : Value → Shared → Prop} {s : Shared}
theorem tableLookup_keep {d : Addr} {x : Nat} {f : Int → Option Value} {Q : Str.Mapped → Shared → Prop} (hd : (d == sysModules) = false) (hh : A.handled = none) (hm : s.heap.MapOf (intKind prog w) d f) (hv : f (x : Int) = none)
    (h : ∀ h' tk, (∀ b o, s.heap.get? b = some o → h'.get? b = some o) → Q .keep { s with heap := h', toks := tk }) :
    wpAny (model prog w) A (Str.tableLookup (.ref d) x) Q E s := by
  unfold Str.tableLookup
  refine wpAny_bind (wpAny_attempt (wpAny_bind (wpAny_mkInt ?_)))
  refine wpAny_getItem_missing_of (s := { s with toks := s.toks + 1 }) (intKind_is prog w _ _) hd hh hm hv fun h' e hx => ?_
  obtain ⟨ob, t, e1, e2, e3⟩ := hx.there
  dsimp only
  refine wpAny_bind (wpAny_isInstance (T := "KeyError") ⟨ob, e1, e2⟩ lookupError_of_keyError ?_)
  rw [if_pos rfl]
  exact wpAny_bind (wpAny_rule (wpAny_pure (h _ _ hx.keeps)))
set_option pp.deepTerms true in
theorem call_translate_keep {d : Addr} {x : Nat} {t : Tok} {f : Int → Option Value} {Q : Value → Shared → Prop} (hd : (d == sysModules) = false) (hh : A.handled = none) (hm : s.heap.MapOf (intKind prog w) d f) (hv : f (x : Int) = none) (hx : x < 128)
    (h : ∀ t' h' tk, (∀ b o, s.heap.get? b = some o → h'.get? b = some o) → Q (.str ⟨#[x]⟩ t') { s with heap := h', toks := tk }) :
    wpAny (model prog w) A (call (.builtin "str.translate") [.str ⟨#[x]⟩ t, .ref d]) Q E s := by
  refine wpAny_call_entry PySem.F.slot_str_translate (typeIs_str _ _ _) PySem.F.entry_str_translate ?_ (PySem.F.args_str_translate_2 _ _)
  unfold Builtin.«str.translate»
  refine wpAny_bind (wpAny_of_eq (a := (Value.str ⟨#[x]⟩ t, (⟨#[x]⟩ : Str), Value.ref d)) rfl ?_)
  dsimp only
  rw [if_neg (by show ¬ ((1 == 0) = true); decide)]
  have hall : (#[x] : Array Nat).all (fun c => decide (c < 128)) = true := by simp [hx]
  simp only [hall, List.forIn_toArray, List.forIn_cons, List.forIn_nil, List.lookup_nil]
  rw [if_neg (by decide +kernel)]
  simp only [if_true]
  refine wpAny_bind (wpAny_bind (wpAny_bind (tableLookup_keep (A := A.in1) hd hh hm hv fun h' tk hk => ?_)))
  dsimp only
  refine wpAny_bind (wpAny_pure ?_)
  dsimp only
  refine wpAny_pure ?_
  dsimp only
  refine wpAny_pure ?_
  dsimp only
  rw [if_neg (by decide +kernel)]
  exact wpAny_bind (wpAny_mkStr (wpAny_pure ⟨_, rfl, h _ _ _ hk⟩) (by show (1 : Nat) ≤ sizeLine; rw [sizeLine_eq]; decide))
end
theorem mapOf_lit {prog : Program} {w : World} {h : Heap} {a : Addr} {o : Obj} {es : Array DictEntry} {ep : Nat} (ho : h.get? a = some o) (hx : o.ExactDict) (hd : o.data = .dict es ep)
    (hk : es.toList.all (fun e => match e.key with | .int k _ => e.hash == hashInt k | _ => false) = true) : h.MapOf (intKind prog w) a (fun k => findBy (intKind prog w).is es k) := by
  refine ⟨o, es, ep, ho, hx, hd, fun e he => ?_, fun k => rfl⟩
  have := List.all_eq_true.mp hk e (Array.mem_toList_iff.mpr he)
  cases hq : e.key with
  | int k t =>
    rw [hq] at this
    exact ⟨k, intKind_is prog w k t, eq_of_beq this⟩
  | _ => rw [hq] at this; cases this
theorem findBy_none {es : Array DictEntry} {x : Int} (h : es.toList.all (fun e => !Value.isInt x e.key) = true) : findBy Value.isInt es x = none := by
  obtain ⟨l⟩ := es
  have : l.find? (fun e => Value.isInt x e.key) = none := List.find?_eq_none.mpr fun e he => by
    have := List.all_eq_true.mp h e he
    simpa using this
  unfold findBy
  rw [List.find?_toArray, this]
  rfl
theorem escape_spec {w : World} {dp un : Nat} {fr : Option (List Env)} {gd : Option (List Code)} {p : Program} {loose : List Str} {mean : ExcName → Option Value} {mg mb : Str → Option Value} {s : Shared} {x : Nat} {tx : Tok} {Q E : Value → Shared → Prop} :
   (hd.heap_39 w.params).In s.heap → Top p loose mean mg mb s.heap → dp + 5 < recursionLimit → un + 20 < cLine →
   65 ≤ x → x ≤ 76 →
   (∀ t h' tk', (∀ b o, s.heap.get? b = some o → h'.get? b = some o) → Q (.str ⟨#[x]⟩ t) { s with heap := h', toks := tk' }) →
   wpAny (model PySem.Challenge.rw_in0246_01.row.prog w) ⟨none, dp, fr, gd, un⟩ (call (.ref 62) [.str ⟨#[x]⟩ tx]) Q E s := by
  k_with_none
  k_fill
  (k_with "exec For Name Subscript cons nil" => (k_here; (rename Fr _ _ _ _ => lF'); (with_unfolding_all refine' For_invVF lF' ?k1 ?k2 ?_; (case k1 => exact rfl); (case k2 => exact rfl); k_whole)))
  (k_with "execs cons" => (first | (k_here; k_gentoks) | ((with_reducible refine Mine.execs_nx ?_); (try dsimp only))))
  (k_with "WhlPost" => dsimp only [Mine.Nx])
  (k_with "KswPost" => dsimp only [Mine.Nx])
  (k_with "InvPostN" => dsimp only [Mine.Nx])
  (k_with "UnrPost" => dsimp only [Mine.Nx])
  (k_with "storeName" => dsimp only)
  intro X T hdp hun hx0 hx1 hret
  k_dflt ((refine' Mine.enter (by assumption) (by assumption) ?ck ?cs ?ho ?hcd ?hroom ?hbind ?hloc ?c2 ?c3 ?c4 ?c5 ?_; (case ho => k_is); (case hcd => k_is); (case hbind => exact BindsTo.of_eq rfl); (case hloc => exact locs rfl); (case c2 => exact rfl); (case c3 => exact rfl); (case c4 => exact rfl); (case c5 => decide)))
  case ck => exact fun _ _ e => e
  case cs => exact Nat.le_refl _
  case hroom => exact Mine.rm (j := 0) hdp rfl
  intro L h₁ hL F hk
  have N : News s.heap L h₁ [] := News.nil
  clear hL hk
  (try dsimp only)
  (try k_fold)
  k_steps
  refine GM.of (.str _ _) (typeIs_str _ _ _) PySem.F.slot_str_translate PySem.F.type_str_translate GM.noRef ?_
  rename Fr _ _ _ _ => F'
  k_steps
  have e52 := F'.keep 52 _ (X 52 _ (by with_unfolding_all rfl))
  refine call_translate_keep (by decide) (by rfl) (mapOf_lit e52 ⟨rfl, rfl, rfl⟩ rfl (by decide +kernel)) (findBy_none ?_) (by omega) ?_
  · have hc : x = 65 ∨ x = 66 ∨ x = 67 ∨ x = 68 ∨ x = 69 ∨ x = 70 ∨ x = 71 ∨ x = 72 ∨ x = 73 ∨ x = 74 ∨ x = 75 ∨ x = 76 := (show ∀ x, x < 77 → 65 ≤ x → (x = 65 ∨ x = 66 ∨ x = 67 ∨ x = 68 ∨ x = 69 ∨ x = 70 ∨ x = 71 ∨ x = 72 ∨ x = 73 ∨ x = 74 ∨ x = 75 ∨ x = 76) from by decide) x (Nat.lt_succ_of_le (by assumption)) (by assumption)
    clear hret e52
    rcases hc with rfl | rfl | rfl | rfl | rfl | rfl | rfl | rfl | rfl | rfl | rfl | rfl <;> decide +kernel
  · exact fun t' h' tk hk => hret _ _ _ fun b o e => hk b o (F'.keep b o e)
end Mine
end
section
namespace Mine
open PySem.Calls PySem.Spec PySem.Builtin
section
variable {prog : Program} {w : World} {A : Around} {E : Value → Shared → Prop} {s : Shared}
/-- the code of a generator expression, made anew or found in the table -/
def GxCode (prog : Program) (w : World) (A : Around) (E : Value → Shared → Prop) (env : Env) (pos : Pos) (scope : Scope) (P : Addr) (Post : Addr → Heap → Prop) (s : Shared) : Prop :=
  ∀ (s₂ : Shared) (Q' : Value → Shared → Prop), (∀ b o, s.heap.get? b = some o → s₂.heap.get? b = some o) →
    (∀ c' h₃ tk₃, Heap.ExtBut P s₂.heap h₃ → s₂.heap.objs.size ≤ h₃.objs.size → Post c' h₃ → Q' (.ref c') { s₂ with heap := h₃, toks := tk₃ }) →
    wpAny (model prog w) A (genexprCode env pos (env.qual ++ "<genexpr>") scope) Q' E s₂
theorem join_genexp {env : Env} {elt iter : Expr} {x : Str} {px : Pos} {scope : Scope} {cl : List (Str × Addr)} {pos : Pos} {Q : Value → Shared → Prop} {mg : Str → Option Value} {bm : Addr} {ob : Obj} {c P l : Addr} {ps : Array Value} {items : Array Value} {f : Nat → Str} {sep : Str} {tsep : Tok} {Post : Addr → Heap → Prop}
    (hh : A.handled = none) (hco : scope.isCoroutine = false) (hclos : closureFor scope env = pure cl) (hcell : ∀ y ∈ scope.names, y.2 ≠ .cell) (h0 : scope.names.lookup (".0" : Str) = some NameKind.local)
    (hx : scope.names.lookup x = some .local) (hkind : scope.kind = .function) (hroom : A.depth < recursionLimit)
    (h : wpAny (model prog w) A (eval iter env) (fun xv s₁ => xv = .ref l ∧ s₁ = s) E s)
    (hl : s.heap.IsList l items) (hlim : s.heap.NoLimit) (M : BMod s.heap env.globals mg bm ob) (hT : s.heap.TableAt c P ps) (hG : GxCode prog w A E env pos scope P Post s)
    (helt : ∀ (A' : Around) E' i v (t : Shared) C code m₂, A'.handled = none → items[i]? = some v → t.heap.Ns C m₂ → m₂ x = some v →
      wpAny (model prog w) A' (eval elt (genEnv scope cl C code builtinsNs env)) (fun y s₃ => (∃ u, y = .str (f i) u) ∧ Keeps t s₃) E' t)
    (hsz : items.size ≤ 100) (hok : JoinOk sep ((List.range items.size).map f) = true) (hbare : AllBare s.gens)
    (hQ : ∀ c' h₃ s' t', Post c' h₃ → (∀ b o, b ≠ P → s.heap.get? b = some o → h₃.get? b = some o) → (∀ b o, b ≠ s.heap.objs.size → h₃.get? b = some o → s'.heap.get? b = some o) → AllBare s'.gens → s'.os = s.os → s'.drawn = s.drawn → Q (.str (Txt.join sep ((List.range items.size).map f)) t') s')
    (hs : ∀ x, genFold iter env x = pure x) :
    wpAny (model prog w) A (eval (.GeneratorExp elt [⟨.Name x px, iter, [], 0⟩] scope pos) env) (fun v s₁ => wpAny (model prog w) A (call (.builtin "str.join") [.str sep tsep, v]) Q E s₁) E s := by
  refine wpAny_GeneratorExp_walksQD hh hco hclos hcell h0 hx hkind hroom (wpAny_mono h (fun xv s₁ h₁' => ?_) fun _ _ e => e) hs
  obtain ⟨rfl, rfl⟩ := h₁'
  have hlt : @LT.lt Nat _ l s₁.heap.objs.size := by obtain ⟨_, e, _⟩ := hl; exact Heap.lt_size e
  refine wpAny_pyIter_list hl ⟨hlim.push _, ?_⟩
  refine hG _ _ (fun b o e => Heap.get?_push_of_some _ e) fun c' h₃ tk₃ hx₃ hge hpost => ?_
  have hP : s₁.heap.get? P ≠ none := fun e => by rw [hT.2] at e; cases e
  have hcP : cStatics ≠ P := fun e => by
    obtain ⟨_, hns, _⟩ := hlim
    obtain ⟨o, es, ep, ho, hd, _⟩ := hns
    rw [e, hT.2] at ho; cases ho; cases hd
  have hl₃ : h₃.NoLimit := (hlim.push _).extBut hx₃ hcP
  have M₃ : BMod h₃ env.globals mg bm ob := (M.keeps fun b o e => Heap.get?_push_of_some _ e).extBut (hT.keeps fun b o e => Heap.get?_push_of_some _ e) hx₃
  refine wpAny_builtinsFor M₃.ns M₃.name M₃.ne M₃.obj M₃.cls M₃.dict M₃.data ?_
  have hPs : P ≠ s₁.heap.objs.size := Nat.ne_of_lt (Heap.lt_size hT.2)
  have hPl : P ≠ l := fun e => by
    obtain ⟨o, ho, hc, _⟩ := hl
    rw [← e, hT.2] at ho; cases ho; exact absurd hc (by simp)
  have hsz2 : s₁.heap.objs.size < h₃.objs.size := by
    have := hge
    dsimp only at this
    rw [Heap.size_push] at this
    exact this
  have W₀ := fun (A' : Around) (hA : A'.handled = none) => Walks.list (prog := prog) (w := w) hA s₁.heap.objs.size l (Nat.ne_of_lt hlt) items
  refine ⟨s₁.heap.objs.size, [s₁.heap.objs.size, l], [s₁.heap.objs.size], items.size, _, _, fun _ => true, fun i v => ∃ u, v = .str (f i) u, rfl, W₀, (W₀ A hh).frame _ _ _ ⟨⟨_, Heap.get?_push_size _ rfl, rfl, rfl⟩, hl.push _⟩ (fun b hb o e => hx₃ b o (fun e' => ?_) e), ?_, hl₃, ?_, ?_, ?_⟩
  · subst e'
    rcases List.mem_cons.mp hb with e | hb
    · exact hPs e
    · rcases List.mem_cons.mp hb with e | hb
      · exact hPl e
      · cases hb
  · intro b hb
    rcases List.mem_cons.mp hb with rfl | hb
    · exact hsz2
    · rcases List.mem_cons.mp hb with rfl | hb
      · exact Nat.lt_trans hlt hsz2
      · cases hb
  · intro hm
    rcases List.mem_cons.mp hm with e | hm
    · obtain ⟨_, hn, _⟩ := hlim
      exact absurd hn.lt (by rw [e]; exact Nat.lt_irrefl _)
    · cases hm
  · intro href hhref
    exact ⟨fun A' E' i v t m₂ hA hD hU hP hn hm hkp => wpAny_pure ⟨rfl, t.heap, t.toks, rfl, fun _ _ e => e⟩, fun A' E' i v t m₂ hA hD hU hP hp hn hm hkp => helt A' E' i v t _ _ m₂ hA hP hn hm⟩
  · intro a h₅ tk gs hgb hag hsz₅ hk₅ W hat
    have W := W.in4_2
    have hpass : passing (fun _ => true) items.size 0 = List.range items.size := by unfold passing; simp
    simp only [hpass, List.length_range] at W
    refine SC.joinGen W (fun i s' st => st.1.typeIs) hat ?_ List.mem_cons_self (fun j v hv => ?_) (fun s' lt hm hacc => ?_) (by rw [sizeLine_eq]; omega)
    · intro b hb
      show b < h₅.objs.size
      rw [hsz₅]
      rcases List.mem_cons.mp hb with rfl | hb
      · exact Nat.lt_succ_self _
      · rcases List.mem_cons.mp hb with rfl | hb
        · exact Nat.lt_succ_of_lt hag
        · exact Nat.lt_succ_of_lt (Nat.lt_trans (List.mem_range.mp hb) hag)
    · obtain ⟨i, _, u, e⟩ := hv
      exact ⟨_, u, e⟩
    · have hlt2 : lt.map (·.1) = (List.range items.size).map f := by
        apply List.ext_getElem?
        intro j
        have hsz : lt.length = items.size := by simpa [strValues] using hacc.1
        by_cases hj : j < items.size
        · have hj' : j < lt.length := hsz ▸ hj
          obtain ⟨i, hi, u, hv⟩ := hacc.2 j (.str lt[j].1 lt[j].2) (by simp [strValues, List.getElem?_eq_getElem hj'])
          injection hv with h1 _
          have hij : i = j := by
            rw [List.getElem?_range hj] at hi
            exact (Option.some.inj hi).symm
          subst hij
          simp [List.getElem?_eq_getElem hj', hj, h1]
        · rw [List.getElem?_eq_none (by simpa [hsz] using Nat.le_of_not_lt hj), List.getElem?_eq_none (by simpa using Nat.le_of_not_lt hj)]
      rw [hlt2]
      have g1 : AllBare s'.gens := AllBare.movedS (hbare.push hgb) hm
      refine ⟨hok, fun t' k => hQ c' h₃ { s' with toks := k } t' hpost (fun b o hb e => hx₃ b o hb (Heap.get?_push_of_some _ e)) (fun b o hb e => hm.heap b o (fun hmem => ?_) (hk₅ b o e)) g1 hm.os hm.drawn⟩
      rcases List.mem_cons.mp hmem with e' | hmem
      · rw [e'] at e
        exact Nat.lt_irrefl _ (Heap.lt_size e)
      · rcases List.mem_cons.mp hmem with e' | hmem
        · exact hb e'
        · cases hmem
end
end Mine
end
section
namespace Mine
open PySem.Calls PySem.Spec PySem.Builtin PySem.Builtin.Str
section
variable {prog : Program} {w : World} {A : Around} {E : Value → Shared → Prop} {s : Shared} {env : Env}
def noOcc (x y : Str) : Bool := (occurrences x y 0 x.length (x.length + 1)).isEmpty
theorem replace_none {x y z : Str} {t u v : Tok} {Q : Value → Shared → Prop} (hn : noOcc x y = true) (hq : ∀ t', Q (.str x t') s) : wpAny (model prog w) A (call (.builtin "str.replace") [.str x t, .str y u, .str z v]) Q E s := by
  have hn' : ((occurrences x y 0 x.length (x.length + 1)).isEmpty || (y.length == 0 && z.length == 0)) = true := by
    unfold noOcc at hn
    rw [hn, Bool.true_or]
  refine call_gives PySem.F.slot_str_replace (typeIs_str _ _ _) PySem.F.entry_str_replace (PySem.F.args_str_replace_3 _ _ _) (gives_str_replace x y z t u v fun hf => by rw [hn'] at hf; cases hf) ?_
  rw [hn']
  exact hq t
theorem replace_elt {o : Expr} {c1 c2 : Str} {k1 k2 : Nat} {q1 q2 apos pos : Pos} {Q : Value → Shared → Prop}
    (hbase : attributeBase o "replace" env (eval o env) = eval o env) (hline : (apos.endLine == pos.line) = true)
    (h : wpAny (model prog w) A (eval o env) (fun ov s₁ => ∃ x t, ov = .str x t ∧ noOcc x c1 = true ∧ ∀ t' k, Q (.str x t') { s₁ with toks := k }) E s) :
    wpAny (model prog w) A (eval (.Call (.Attribute o "replace" apos) [.Constant (.str c1) k1 q1, .Constant (.str c2) k2 q2] [] pos) env) Q E s := by
  refine wpAny_Call_method_lateS hbase (by rfl) hline (wpAny_mono h (fun ov s₁ h₁ => ?_) fun _ _ e => e)
  obtain ⟨x, t, rfl, hn, hq⟩ := h₁
  refine ⟨"str", "str.replace", PySem.F.plainAttrs_str, PySem.F.slot_str_replace, PySem.F.type_str_replace, typeIs_str _ _ _, (fun _ e => nomatch e), ?_⟩
  refine Calls.callWith_builtin rfl (Calls.evalArgs_plain ?_)
  show wpAny _ _ (spliced [(false, eval (.Constant (.str c1) k1 q1) env), (false, eval (.Constant (.str c2) k2 q2) env)]) _ _ _
  refine Calls.spliced_cons (wpAny_Constant_str (k := k1) (pos := q1) (Calls.spliced_cons (wpAny_Constant_str (k := k2) (pos := q2) (Calls.spliced_nil ?_))))
  exact replace_none hn fun t' => hq t' _
theorem gx_elt {x : Str} {scope : Scope} {cl : List (Str × Addr)} {C : Addr} {code : Value} {c1 c2 c3 c4 y : Str} {k1 k2 k3 k4 : Nat} {p0 q1 q2 q3 q4 a1 a2 b1 b2 : Pos} {m : Str → Option Value} {tv : Tok}
    (hkind : scope.kind = .function) (hx : scope.names.lookup x = some .local) (hd : (x == ("__debug__" : Str)) = false) (hl1 : (a1.endLine == b1.line) = true) (hl2 : (a2.endLine == b2.line) = true)
    (hC : s.heap.Ns C m) (hv : m x = some (.str y tv)) (h1 : noOcc y c1 = true) (h2 : noOcc y c3 = true)
    (hb1 : attributeBase (.Name x p0) "replace" (genEnv scope cl C code builtinsNs env) (eval (.Name x p0) (genEnv scope cl C code builtinsNs env)) = eval (.Name x p0) (genEnv scope cl C code builtinsNs env)) :
    wpAny (model prog w) A (eval (.Call (.Attribute (.Call (.Attribute (.Name x p0) "replace" a1) [.Constant (.str c1) k1 q1, .Constant (.str c2) k2 q2] [] b1) "replace" a2) [.Constant (.str c3) k3 q3, .Constant (.str c4) k4 q4] [] b2) (genEnv scope cl C code builtinsNs env))
      (fun v s₃ => (∃ u, v = .str y u) ∧ Keeps s s₃) E s := by
  refine replace_elt (by rfl) hl2 (replace_elt hb1 hl1 ?_)
  refine wpAny_Name (wpAny_loadName_local (by simp [genEnv, hkind]) hx hC hv ?_) hd
  exact ⟨y, tv, rfl, h1, fun t' k => ⟨y, t', rfl, h2, fun t'' k' => ⟨⟨t'', rfl⟩, s.heap, k', rfl, fun _ _ e => e⟩⟩⟩
end
end Mine
end
section
namespace Mine
open PySem.Calls PySem.Spec PySem.Builtin
section
variable {prog : Program} {w : World} {A : Around} {E : Value → Shared → Prop} {s : Shared} {h₀ : Heap} {L c P : Addr} {m mg mb : Str → Option Value} {news : List (Addr × Obj)} {g : Obj → List (Addr × Obj)} {p : Program} {loose : List Str} {mean : ExcName → Option Value} {ps : Array Value}
theorem gx_new {env : Env} {pos : Pos} {scope : Scope} (hcode : env.code = .ref c) (C : CodeHd s.heap c P) (hP : s.heap.get? P = some (tabObj ps)) (ht : TriplesOk ps.toList) (hnf : codeAmong pos ps.toList = none) :
    GxCode prog w A E env pos scope P (fun c' h₃ => h₃.get? P = some (tabObj (ps ++ #[rawInt pos.line, rawInt pos.col, .ref c']))) s := by
  intro s₂ Q' hk hq
  have C₂ := C.keeps hk
  have hP₂ := hk _ _ hP
  refine wpAny_genexprCodeX hcode (C₂.code hP₂ ht) (C₂.tab hP₂) hnf fun c' h' tk hx hge hlt hcd hrec htab _ => ?_
  exact hq c' h' tk hx (Nat.le_trans hge (Nat.le_of_lt hlt)) htab.2
theorem gx_hit {env : Env} {pos : Pos} {scope : Scope} {c₀ : Addr} (hcode : env.code = .ref c) (C : CodeHd s.heap c P) (hP : s.heap.get? P = some (tabObj ps)) (ht : TriplesOk ps.toList) (hf : codeAmong pos ps.toList = some (.ref c₀)) :
    GxCode prog w A E env pos scope P (fun _ h₃ => h₃.get? P = some (tabObj ps)) s := by
  intro s₂ Q' hk hq
  have C₂ := C.keeps hk
  have hP₂ := hk _ _ hP
  refine wpAny_genexprCode_hit hcode (C₂.code hP₂ ht) hf ?_
  exact hq c₀ s₂.heap s₂.toks (fun b o _ e => e) (Nat.le_refl _) hP₂
theorem join_led {env : Env} {elt iter : Expr} {x : Str} {px : Pos} {scope : Scope} {cl : List (Str × Addr)} {pos : Pos} {Q : Value → Shared → Prop} {l : Addr} {items : Array Value} {n : Nat} {f : Nat → Str} {sep : Str} {tsep : Tok} {psOf : Addr → Array Value}
    (F : Fr h₀ L s.heap m) (N : News h₀ L s.heap news) (T : Top p loose mean mg mb h₀) (U : UpdF P (tabObj ps) news g) (hlm : (l, listOf items n) ∈ news) (C : CodeHd h₀ c P)
    (hG : GxCode prog w A E env pos scope P (fun c' h₃ => h₃.get? P = some (tabObj (psOf c'))) s)
    (hh : A.handled = none) (hco : scope.isCoroutine = false) (hclos : closureFor scope env = pure cl) (hcell : ∀ y ∈ scope.names, y.2 ≠ .cell) (h0 : scope.names.lookup (".0" : Str) = some NameKind.local)
    (hx : scope.names.lookup x = some .local) (hkind : scope.kind = .function) (hroom : A.depth < recursionLimit) (hglob : env.globals = mainGlobals)
    (h : wpAny (model prog w) A (eval iter env) (fun xv s₁ => xv = .ref l ∧ s₁ = s) E s)
    (helt : ∀ (A' : Around) E' i v (t : Shared) C code m₂, A'.handled = none → items[i]? = some v → t.heap.Ns C m₂ → m₂ x = some v →
      wpAny (model prog w) A' (eval elt (genEnv scope cl C code builtinsNs env)) (fun y s₃ => (∃ u, y = .str (f i) u) ∧ Keeps t s₃) E' t)
    (hsz : items.size ≤ 100) (hok : JoinOk sep ((List.range items.size).map f) = true) (hbare : AllBare s.gens)
    (hQ : ∀ c' h' g' tk' t', Fr h₀ L h' m → News h₀ L h' (g (tabObj (psOf c'))) → AllBare g' → Q (.str (Txt.join sep ((List.range items.size).map f)) t') { s with heap := h', gens := g', toks := tk' })
    (hs : ∀ x, genFold iter env x = pure x) :
    wpAny (model prog w) A (eval (.GeneratorExp elt [⟨.Name x px, iter, [], 0⟩] scope pos) env) (fun v s₁ => wpAny (model prog w) A (call (.builtin "str.join") [.str sep tsep, v]) Q E s₁) E s := by
  obtain ⟨own, rest, rfl, hgr, h1, h2⟩ := U.split
  have hm := N (P, tabObj ps) (List.mem_append_right _ (.head _))
  obtain ⟨bm, ob, M⟩ := bmod_of_top T
  have hC := C.keeps F.keep
  refine join_genexp (c := c) (P := P) (ps := ps) hh hco hclos hcell h0 hx hkind hroom h (News.isList N hlm) (T.nolimit.keeps F.keep) (hglob ▸ M.keeps F.keep) (hC.tab hm.1) hG helt hsz hok hbare (fun c' h₃ s' t' hpost hk1 hk2 hb hos hdr => ?_) hs
  obtain ⟨hp', g', d', tk', os'⟩ := s'
  dsimp only at hos hdr hk2 hb
  subst hos hdr
  have key : ∀ b o, b ≠ P → s.heap.get? b = some o → hp'.get? b = some o := fun b o hb e => hk2 b o (Nat.ne_of_lt (Heap.lt_size e)) (hk1 b o hb e)
  refine hQ c' hp' g' tk' t' ?_ ?_ hb
  · exact fr_after F hm.2.1 hm.2.2 fun b o e => key b o (fun q => by rw [q, Heap.hide_self] at e; cases e) (Heap.of_hide e)
  · rw [hgr]
    intro q hq
    rcases List.mem_append.mp hq with hq | hq
    · have n := N q (List.mem_append_left _ hq)
      exact ⟨key _ _ (h1 q hq) n.1, n.2⟩
    · rcases List.mem_cons.mp hq with rfl | hq
      · exact ⟨hk2 _ _ (Nat.ne_of_lt (Heap.lt_size hm.1)) hpost, hm.2⟩
      · have n := N q (List.mem_append_right _ (.tail _ hq))
        exact ⟨key _ _ (h2 q hq) n.1, n.2⟩
end
end Mine
end
section
namespace Mine
open PySem.Calls PySem.Spec PySem.Builtin PySem.Builtin.Re
section
variable {prog : Program} {w : World} {A : Around} {E : Value → Shared → Prop} {s : Shared}
def driveP : Nat → Sre.M → Option Sre.M
  | 0, _ => none
  | k + 1, m => if (m.runFor 4).outcome.isSome then some (m.runFor 4) else driveP k (m.runFor 4)
theorem wp_drive : ∀ (k n : Nat) (m m' : Sre.M) (Q : Sre.M → Shared → Prop), driveP k m = some m' → k ≤ n → Q m' s → wpAny (model prog w) A (reDrive n m) Q E s
  | 0, _, _, _, _, h, _, _ => by cases h
  | k + 1, 0, _, _, _, _, hn, _ => absurd hn (by omega)
  | k + 1, n + 1, m, m', Q, h, hn, hQ => by
    unfold driveP at h
    unfold reDrive
    dsimp only
    show wpAny _ _ (if ((m.runFor 4).outcome.isSome) = true then pure (m.runFor 4) else do rule "sre.turn"; reDrive n (m.runFor 4)) _ _ _
    by_cases ho : (m.runFor 4).outcome.isSome = true
    · rw [if_pos ho] at h ⊢
      cases h
      exact wpAny_pure hQ
    · rw [if_neg ho] at h ⊢
      exact wpAny_bind (wpAny_rule (wp_drive k n _ _ _ h (by omega) hQ))
def failsP (k : Nat) (m : Sre.M) : Bool := match driveP k m with
  | some m' => match m'.outcome with | some .failed => true | _ => false
  | none => false
theorem wp_rules {m : Sre.M} {Q : PUnit → Shared → Prop} (h : Q ⟨⟩ s) : ∀ (l : List Nat), wpAny (model prog w) A (forIn l PUnit.unit fun i _ => if m.seen.has i = true then (do rule (Sre.names.getD i ""); pure (ForInStep.yield PUnit.unit)) else pure (ForInStep.yield PUnit.unit)) Q E s
  | [] => wpAny_pure h
  | i :: l => by
    rw [List.forIn_cons]
    refine wpAny_bind ?_
    by_cases hs : m.seen.has i = true
    · rw [if_pos hs]
      exact wpAny_bind (wpAny_rule (wpAny_pure (wp_rules h l)))
    · rw [if_neg hs]
      exact wpAny_pure (wp_rules h l)
theorem wp_runToEnd {k : Nat} {m : Sre.M} {Q : Option Sre.M → Shared → Prop} (hf : failsP k m = true) (hk : k ≤ 1000) (h : Q none s) : wpAny (model prog w) A (reRunToEnd m) Q E s := by
  unfold failsP at hf
  cases hd : driveP k m with
  | none => rw [hd] at hf; cases hf
  | some m' =>
    rw [hd] at hf
    dsimp only at hf
    unfold reRunToEnd
    refine wpAny_bind (wp_drive k _ m m' _ hd (by omega) ?_)
    refine wpAny_bind ?_
    refine wp_rules (m := m') ?_ _
    cases ho : m'.outcome with
    | none => rw [ho] at hf; cases hf
    | some o =>
      rw [ho] at hf
      cases o with
      | failed => exact wpAny_pure h
      | matched => cases hf
      | stuck _ => cases hf
def sreCode : Array Nat := #[14, 14, 4, 1, 1, 9, 0, 64, 0, 1342177280, 0, 0, 0, 0, 0, 17, 0, 13, 11, 9, 0, 64, 0, 1342177280, 0, 0, 0, 0, 0, 17, 1, 1]
theorem sre_three : ∀ a b : Fin 11, failsP 200 (Sre.forSearch sreCode #[66 + b.val, 45, 66 + a.val] 1 0 3 false) = true := by decide +kernel
theorem sre_zero : failsP 200 (Sre.forSearch sreCode #[] 1 0 0 false) = true := by decide +kernel
end
end Mine
end
section
namespace Mine
open PySem.Calls PySem.Spec PySem.Builtin PySem.Builtin.Re
theorem sub_slot : Slot "re.Pattern" "sub" "re.Pattern.sub" :=
  .of (owner := "re.Pattern") (n := "sub") (by rw [typeLookup_type, builtinLookup_eq_fast]; kernel_rfl) (by decide +kernel) (by decide +kernel) (by decide +kernel)
    (by first | exact .inl (by decide +kernel) | exact .inr (by decide +kernel)) (by rw [isSubtype_type]; kernel_rfl)
theorem sub_type : typeOf (.builtin "re.Pattern.sub") = pure (.type "method_descriptor") := by show builtinType _ = _; rw [builtinType_eq_fast]; kernel_rfl
theorem sub_entry : entryFor table "re.Pattern.sub" = some Builtin.«re.Pattern.sub» := entryFor_of_tree (by kernel_rfl)
theorem sub_loop_entry : entryFor table "re.Pattern.sub.loop" = some Builtin.«re.Pattern.sub.loop» := entryFor_of_tree (by kernel_rfl)
theorem sub_args (a b c : Value) : argsOk "re.Pattern.sub" ⟨[a, b, c], []⟩ := by unfold argsOk; kernel_rfl
theorem sub_quiet {as : Args} : (Code.builtin "re.Pattern.sub.loop" as).quiet = true := Code.quiet_builtin _ (by decide +kernel)
theorem fn_call : ∃ v, typeLookup (.type "function") "__call__" = pure (some v) := ⟨.builtin "function.__call__", by rw [typeLookup_type, builtinLookup_eq_fast]; kernel_rfl⟩
theorem str_bytearray : isSubtype (.type "str") (.type "bytearray") = pure false := by rw [isSubtype_type]; kernel_rfl
section
variable {prog : Program} {w : World} {A : Around} {E : Value → Shared → Prop} {s : Shared}
theorem whole_target {P C : Addr} {a0 a1 : Value} {t1 t2 : Tok} {codes : Array Value} {k : Nat} {x : Str} {t : Tok} {Q : ReTarget → Shared → Prop}
    (hP : s.heap.get? P = some { cls := .type "re.Pattern", data := .fields #[a0, a1, .int 1 t1, .none, .none, .ref C, .int 0 t2] })
    (hC : s.heap.get? C = some { cls := .type "tuple", data := .seq codes k }) (hcode : (codes.map reRawOf).map (·.toNat) = sreCode)
    (h : Q { pattern := .ref P, string := .str x t, code := sreCode, text := x.cps, kind := 0, groups := 1, pos := 0, lim := x.cps.size } s) : wpAny (model prog w) A (reWholeTarget (.ref P) (.str x t)) Q E s := by
  obtain ⟨hp, g, d, tk, os⟩ := s
  have hC : hp.get? C = some { cls := .type "tuple", data := .seq codes k } := hC
  unfold reWholeTarget
  refine wpAny_bind (wpAny_fieldsOf hP rfl ?_)
  refine wpAny_bind (wpAny_of_eq (a := (x.cps, 0)) (by first | rfl | kernel_rfl) ?_)
  dsimp only
  refine KFB.if_not (by rfl) ?_
  refine KFB.if_not (by rfl) ?_
  refine wpAny_bind (wpAny_of_eq (a := ()) (by first | rfl | kernel_rfl) ?_)
  refine wpAny_bind ?_
  show wpAny _ _ (reRawItems (.ref C)) _ _ _
  unfold reRawItems seqItems?
  repeat (any_goals (first | assumption | wp_step))
  rw [Option.getD_some, hcode]
  exact h
theorem sub_none {P C f : Addr} {a0 a1 : Value} {t1 t2 : Tok} {codes : Array Value} {k : Nat} {of : Obj} {x : Str} {t : Tok} {Q : Value → Shared → Prop}
    (hP : s.heap.get? P = some { cls := .type "re.Pattern", data := .fields #[a0, a1, .int 1 t1, .none, .none, .ref C, .int 0 t2] })
    (hC : s.heap.get? C = some { cls := .type "tuple", data := .seq codes k }) (hcode : (codes.map reRawOf).map (·.toNat) = sreCode)
    (hf : s.heap.get? f = some of) (hfc : of.cls = .type "function") (hno : failsP 200 (Sre.forSearch sreCode x.cps 1 0 x.cps.size false) = true) (hsz : x.cps.size ≤ 100)
    (h : ∀ t' h' tk, (∀ b o, s.heap.get? b = some o → h'.get? b = some o) → Q (.str x t') { s with heap := h', toks := tk }) :
    wpAny (model prog w) A (call (.builtin "re.Pattern.sub") [.ref P, .ref f, .str x t]) Q E s := by
  refine wpAny_call (codeAny_call_builtin sub_slot.plain sub_entry (sub_slot.check _ _ _ _ _ _ _ _ ⟨_, hP, rfl⟩ (sub_args _ _ _) ?_))
  unfold Builtin.«re.Pattern.sub» reSubstitute
  dsimp only
  refine wpAny_bind (wpAny_of_eq (a := [some (.ref f), some (.str x t), none]) (by first | rfl | kernel_rfl) ?_)
  dsimp only
  refine wpAny_bind (wpAny_pure ?_)
  obtain ⟨vc, hvc⟩ := fn_call
  refine wpAny_bind (wpAny_specialOf (T := "function") ⟨of, hf, hfc⟩ hvc ?_)
  refine KFB.if_so rfl ?_
  refine wpAny_bind (wpAny_pure ?_)
  refine KFB.if_so rfl ?_
  refine wpAny_bind (wpAny_pure ?_)
  refine wpAny_bind (wpAny_holding (whole_target hP hC hcode ?_))
  refine KFB.if_so (by rfl) ?_
  refine wpAny_bind ?_
  unfold reNotHeld
  refine wpAny_bind (wpAny_isInstance (typeIs_str _ _ _) str_bytearray ?_)
  refine wpAny_pure ?_
  unfold newList
  refine wpAny_bind (wpAny_newObj_type ?_)
  refine wpAny_pure ⟨sub_quiet, codeAny_builtin sub_loop_entry ?_⟩
  unfold Builtin.«re.Pattern.sub.loop»
  dsimp only [rawInt]
  refine wpAny_bind (whole_target (Heap.get?_push_of_some _ hP) (Heap.get?_push_of_some _ hC) hcode ?_)
  dsimp only
  refine KFB.if_not (by rfl) ?_
  refine wpAny_bind ?_
  refine KFB.if_not (by rfl) ?_
  unfold reNextFound
  refine wp_runToEnd (k := 200) hno (by decide) ?_
  dsimp only
  have hl0 : (⟨x.cps.extract 0 0⟩ : Str).length ≤ sizeLine := by
    have : (⟨x.cps.extract 0 0⟩ : Str).length = 0 := by
      show (x.cps.extract 0 0).size = 0
      simp
    (first | lia | omega)
  by_cases hz : 0 < x.cps.size
  · rw [if_pos (by simpa using hz)]
    have hfull : (⟨x.cps.extract 0 x.cps.size⟩ : Str) = x := by
      rw [Array.extract_size]
    have hl : (⟨x.cps.extract 0 x.cps.size⟩ : Str).length ≤ sizeLine := by
      rw [hfull, sizeLine_eq]
      have : x.length = x.cps.size := rfl
      (first | lia | omega)
    unfold reSlice
    refine wpAny_bind (KFB.if_so rfl (wpAny_mkStr ?_ hl))
    refine wpAny_bind (wpAny_updateSeq (Heap.get?_push_size _ rfl) rfl ?_)
    refine wpAny_bind (KFB.if_so rfl (wpAny_mkStr ?_ hl0))
    have hg : ((s.heap.push { cls := .type "list", data := .seq #[] }).update s.heap.objs.size (Obj.mapSeq (·.push (Value.str ⟨x.cps.extract 0 x.cps.size⟩ s.toks)))).get? s.heap.objs.size = some { cls := .type "list", data := .seq #[Value.str ⟨x.cps.extract 0 x.cps.size⟩ s.toks] 1 } := by
      rw [Heap.get?_update_self _ (Heap.get?_push_size _ rfl) (by rw [mapSeq_push]; rfl), mapSeq_push]
      rfl
    have hbut := Heap.SameBut.update (h := s.heap.push { cls := .type "list", data := .seq #[] }) (a := s.heap.objs.size) (f := Obj.mapSeq (·.push (Value.str ⟨x.cps.extract 0 x.cps.size⟩ s.toks)))
    refine wpAny_bind (wpAny_seqItems hg rfl ?_)
    refine KFB.if_not (by rfl) ?_
    refine wpAny_bind ?_
    refine SC.join (l := [(⟨x.cps.extract 0 x.cps.size⟩, s.toks)]) (texts := [x]) ⟨_, hg, rfl, _, rfl⟩ (by rw [hfull]; rfl) ?_ fun t' k => ?_
    · have h1 : x.length = x.cps.size := rfl
      have h2 : (⟨x.cps.extract 0 0⟩ : Str).length = 0 := by
        show (x.cps.extract 0 0).size = 0
        simp
      show (!Str.tooLong (0 + x.length + (⟨x.cps.extract 0 0⟩ : Str).length)) = true
      have : Str.tooLong (0 + x.length + (⟨x.cps.extract 0 0⟩ : Str).length) = false := by
        unfold Str.tooLong sizeLine
        exact decide_eq_false (by (first | lia | omega))
      rw [this]
      rfl
    · refine KFB.if_not rfl ?_
      refine wpAny_pure ?_
      have e : Txt.join ⟨x.cps.extract 0 0⟩ [x] = x := by first | rfl | simp [Txt.join, Str.glued]
      rw [e]
      exact h t' _ k fun b o e => hbut.2 b (Nat.ne_of_lt (Heap.lt_size e)) ▸ Heap.get?_push_of_some _ e
  · rw [if_neg (by simpa using hz)]
    have hx : x = ⟨#[]⟩ := by
      obtain ⟨c⟩ := x
      have : c.size = 0 := by simpa using hz
      rw [Array.eq_empty_of_size_eq_zero this]
    unfold reSlice
    refine wpAny_bind (KFB.if_so rfl (wpAny_mkStr ?_ hl0))
    refine wpAny_bind (wpAny_seqItems (Heap.get?_push_size _ rfl) rfl ?_)
    refine KFB.if_so (by rfl) ?_
    refine wpAny_bind (wpAny_pure ?_)
    refine KFB.if_not rfl ?_
    refine wpAny_pure ?_
    have := h s.toks (s.heap.push { cls := .type "list", data := .seq #[] }) (s.toks + 1) fun b o e => Heap.get?_push_of_some _ e
    have e0 : (⟨x.cps.extract 0 0⟩ : Str) = x := by rw [hx]; rfl
    rw [← e0] at this
    exact this
theorem sub_plain : PlainAttrs "re.Pattern" :=
  ⟨⟨"object.__getattribute__", by rw [typeLookup_type, builtinLookup_eq_fast]; kernel_rfl, by decide +kernel⟩, by rw [typeLookup_type, builtinLookup_eq_fast]; kernel_rfl⟩
theorem sub_method {P : Addr} {flds : Array Value} {pl : Sem Bool} {Q : Value × List Value → Shared → Prop} (hP : s.heap.get? P = some { cls := .type "re.Pattern", data := .fields flds })
    (h : Q (.builtin "re.Pattern.sub", [.ref P]) s) : wpAny (model prog w) A (getMethod (.ref P) "sub" pl) Q E s :=
  getMethod_builtin (T := "re.Pattern") ⟨_, hP, rfl⟩ sub_plain sub_slot sub_type (fun a e => by cases e; exact ⟨_, hP, rfl⟩) h
end
end Mine
end
section
namespace Mine
/-! the plain law of the writings: states, weights, greedy writings (all in Nat) -/
/-- how many words of k figures may follow from state i -/
def cnt (l : Nat → Nat) (r : Nat) : Nat → Nat → Nat
  | 0, i => if i < r then 1 else 0
  | k + 1, i => if i < r then l i * cnt l r k 0 + cnt l r k (i + 1) else 0
def stp (l : Nat → Nat) (r i d : Nat) : Option Nat := if d < l i then some 0 else if d = l i ∧ i + 1 < r then some (i + 1) else none
def run (l : Nat → Nat) (r : Nat) : Nat → Nat → Nat → Option Nat
  | 0, i, _ => some i
  | k + 1, i, n => (stp l r i (n / 16 ^ k)).bind fun j => run l r k j (n % 16 ^ k)
/-- the greedy writing in k figures -/
def gd (l : Nat → Nat) (r : Nat) : Nat → Nat → Nat
  | 0, _ => 0
  | k + 1, v => v / cnt l r k 0 * 16 ^ k + gd l r k (v % cnt l r k 0)
/-- the value of a writing of k figures -/
def vl (l : Nat → Nat) (r : Nat) : Nat → Nat → Nat
  | 0, _ => 0
  | k + 1, n => n / 16 ^ k * cnt l r k 0 + vl l r k (n % 16 ^ k)
structure Lim (l : Nat → Nat) (r : Nat) : Prop where
  r0 : 0 < r
  pos : ∀ i, i < r → 1 ≤ l i
  le9 : ∀ i, i < r → l i ≤ 9
  anti : ∀ i, i + 1 < r → l (i + 1) ≤ l i
section
variable {l : Nat → Nat} {r : Nat}
theorem cnt_out {k i : Nat} (h : r ≤ i) : cnt l r k i = 0 := by
  cases k <;> simp [cnt, Nat.not_lt.mpr h]
theorem cnt_succ {k i : Nat} (h : i < r) : cnt l r (k + 1) i = l i * cnt l r k 0 + cnt l r k (i + 1) := by
  simp [cnt, h]
theorem cnt_anti (H : Lim l r) : ∀ k i, cnt l r k (i + 1) ≤ cnt l r k i := by
  intro k
  induction k with
  | zero => intro i; simp only [cnt]; split <;> split <;> (first | lia | omega)
  | succ k ih =>
    intro i
    by_cases h : i + 1 < r
    · rw [cnt_succ h, cnt_succ (show i < r by (first | lia | omega))]
      have := Nat.mul_le_mul_right (cnt l r k 0) (H.anti i h)
      have := ih (i + 1)
      (first | lia | omega)
    · rw [cnt_out (by (first | lia | omega))]
      exact Nat.zero_le _
theorem cnt_le (H : Lim l r) (k : Nat) : ∀ i, cnt l r k i ≤ cnt l r k 0
  | 0 => Nat.le_refl _
  | i + 1 => Nat.le_trans (cnt_anti H k i) (cnt_le H k i)
theorem cnt_pos (H : Lim l r) : ∀ k i, i < r → 0 < cnt l r k i := by
  intro k
  induction k with
  | zero => intro i hi; simp [cnt, hi]
  | succ k ih =>
    intro i hi
    rw [cnt_succ hi]
    have := Nat.mul_pos (H.pos i hi) (ih 0 H.r0)
    (first | lia | omega)
theorem cnt_mul (H : Lim l r) (t : Nat) : ∀ k i, cnt l r (k + t) i ≤ cnt l r k i * cnt l r t 0 := by
  intro k
  induction k with
  | zero =>
    intro i
    by_cases h : i < r
    · rw [Nat.zero_add]
      simp only [cnt, h, if_true, Nat.one_mul]
      exact cnt_le H t i
    · rw [cnt_out (by (first | lia | omega))]; exact Nat.zero_le _
  | succ k ih =>
    intro i
    by_cases h : i < r
    · rw [Nat.add_right_comm, cnt_succ h, cnt_succ h, Nat.add_mul, Nat.mul_assoc]
      have := Nat.mul_le_mul_left (l i) (ih 0)
      have := ih (i + 1)
      (first | lia | omega)
    · rw [cnt_out (by (first | lia | omega))]; exact Nat.zero_le _
theorem cnt_mono (H : Lim l r) (k : Nat) : cnt l r k 0 ≤ cnt l r (k + 1) 0 := by
  rw [cnt_succ H.r0]
  have := Nat.mul_le_mul_right (cnt l r k 0) (H.pos 0 H.r0)
  (first | lia | omega)
theorem cnt_mono' (H : Lim l r) {k : Nat} : ∀ t, cnt l r k 0 ≤ cnt l r (k + t) 0
  | 0 => Nat.le_refl _
  | t + 1 => Nat.le_trans (cnt_mono' H t) (cnt_mono H (k + t))
theorem stp_some {i d j : Nat} (h : stp l r i d = some j) : (d < l i ∧ j = 0) ∨ (d = l i ∧ i + 1 < r ∧ j = i + 1) := by
  unfold stp at h
  split at h
  · rename_i hd; cases h; exact .inl ⟨hd, rfl⟩
  · split at h
    · rename_i hd; cases h; exact .inr ⟨hd.1, hd.2, rfl⟩
    · cases h
theorem stp_lt (H : Lim l r) {i d j : Nat} (hi : i < r) (h : stp l r i d = some j) : j < r ∧ d ≤ l i := by
  have := H.r0
  rcases stp_some h with ⟨a, b⟩ | ⟨a, b, c⟩ <;> (first | lia | omega)
theorem l_le (H : Lim l r) : ∀ i, i < r → l i ≤ l 0
  | 0, _ => Nat.le_refl _
  | i + 1, h => Nat.le_trans (H.anti i h) (l_le H i (by (first | lia | omega)))
theorem run_succ {k i n : Nat} : run l r (k + 1) i n = (stp l r i (n / 16 ^ k)).bind fun j => run l r k j (n % 16 ^ k) := rfl
theorem p16 (k : Nat) : 0 < 16 ^ k := Nat.pow_pos (by decide)
theorem split16 {k d x : Nat} (hx : x < 16 ^ k) : (d * 16 ^ k + x) / 16 ^ k = d ∧ (d * 16 ^ k + x) % 16 ^ k = x := by
  constructor
  · rw [Nat.add_comm, Nat.add_mul_div_right _ _ (p16 k), Nat.div_eq_of_lt hx, Nat.zero_add]
  · rw [Nat.add_comm, Nat.add_mul_mod_self_right, Nat.mod_eq_of_lt hx]
theorem splitc {k d x : Nat} (hx : x < cnt l r k 0) : (d * cnt l r k 0 + x) / cnt l r k 0 = d ∧ (d * cnt l r k 0 + x) % cnt l r k 0 = x := by
  have hp : 0 < cnt l r k 0 := by (first | lia | omega)
  constructor
  · rw [Nat.add_comm, Nat.add_mul_div_right _ _ hp, Nat.div_eq_of_lt hx, Nat.zero_add]
  · rw [Nat.add_comm, Nat.add_mul_mod_self_right, Nat.mod_eq_of_lt hx]
/-- the value of a free word lies below the count -/
theorem vl_lt (H : Lim l r) : ∀ k i n, i < r → (run l r k i n).isSome → vl l r k n < cnt l r k i := by
  intro k
  induction k with
  | zero => intro i n hi _; simp [vl, cnt, hi]
  | succ k ih =>
    intro i n hi h
    rw [run_succ] at h
    rw [cnt_succ hi]
    show n / 16 ^ k * cnt l r k 0 + vl l r k (n % 16 ^ k) < _
    generalize n / 16 ^ k = d at *
    cases hs : stp l r i d with
    | none => rw [hs] at h; cases h
    | some j =>
      rw [hs] at h
      have hv := ih j (n % 16 ^ k) (stp_lt H hi hs).1 h
      rcases stp_some hs with ⟨a, rfl⟩ | ⟨rfl, b, rfl⟩
      · have := Nat.mul_le_mul_right (cnt l r k 0) (show d + 1 ≤ l i by (first | lia | omega))
        rw [Nat.add_mul, Nat.one_mul] at this
        (first | lia | omega)
      · (first | lia | omega)
/-- the greedy writing of a value below the count is free and has that value -/
theorem gd_ok (H : Lim l r) : ∀ k i v, i < r → v < cnt l r k i → (run l r k i (gd l r k v)).isSome ∧ gd l r k v < 16 ^ k ∧ vl l r k (gd l r k v) = v := by
  intro k
  induction k with
  | zero =>
    intro i v hi hv
    simp only [cnt, hi, if_true] at hv
    refine ⟨rfl, by simp [gd], ?_⟩
    simp [vl]; (first | lia | omega)
  | succ k ih =>
    intro i v hi hv
    rw [cnt_succ hi] at hv
    have hp := cnt_pos H k 0 H.r0
    have hm := Nat.mod_lt v hp
    have hdm : v / cnt l r k 0 * cnt l r k 0 + v % cnt l r k 0 = v := by rw [Nat.mul_comm]; exact Nat.div_add_mod _ _
    have h0 := ih 0 _ H.r0 hm
    have hs := split16 (d := v / cnt l r k 0) h0.2.1
    have hle : cnt l r k (i + 1) ≤ cnt l r k 0 := cnt_le H k (i + 1)
    have h9 := H.le9 i hi
    generalize hd : v / cnt l r k 0 = d at *
    have hdl : d < l i ∨ (d = l i ∧ v % cnt l r k 0 < cnt l r k (i + 1)) := by
      rcases Nat.lt_trichotomy d (l i) with h | h | h
      · exact .inl h
      · subst h; exact .inr ⟨rfl, by (first | lia | omega)⟩
      · have := Nat.mul_le_mul_right (cnt l r k 0) (show l i + 1 ≤ d from h)
        rw [Nat.add_mul, Nat.one_mul] at this
        (first | lia | omega)
    refine ⟨?_, ?_, ?_⟩
    · show (run l r (k + 1) i (v / cnt l r k 0 * 16 ^ k + gd l r k (v % cnt l r k 0))).isSome
      rw [hd, run_succ, hs.1, hs.2]
      rcases hdl with h | ⟨h, hlt⟩
      · rw [show stp l r i d = some 0 by unfold stp; rw [if_pos h]]
        exact h0.1
      · have hir : i + 1 < r := by
          apply Classical.byContradiction
          intro hn
          rw [cnt_out (show r ≤ i + 1 by (first | lia | omega))] at hlt
          exact Nat.not_lt_zero _ hlt
        rw [show stp l r i d = some (i + 1) by unfold stp; rw [if_neg (by (first | lia | omega)), if_pos ⟨h, hir⟩]]
        exact (ih (i + 1) _ hir hlt).1
    · show v / cnt l r k 0 * 16 ^ k + gd l r k (v % cnt l r k 0) < 16 ^ (k + 1)
      rw [hd, Nat.pow_succ, Nat.mul_comm (16 ^ k)]
      have := Nat.mul_le_mul_right (16 ^ k) (show d + 1 ≤ 16 by (first | lia | omega))
      rw [Nat.add_mul, Nat.one_mul] at this
      (first | lia | omega)
    · show (v / cnt l r k 0 * 16 ^ k + gd l r k (v % cnt l r k 0)) / 16 ^ k * cnt l r k 0 + vl l r k ((v / cnt l r k 0 * 16 ^ k + gd l r k (v % cnt l r k 0)) % 16 ^ k) = v
      rw [hd, hs.1, hs.2, h0.2.2]
      exact hdm
/-- a free word is the greedy writing of its value -/
theorem gd_vl (H : Lim l r) : ∀ k i n, i < r → n < 16 ^ k → (run l r k i n).isSome → gd l r k (vl l r k n) = n := by
  intro k
  induction k with
  | zero => intro i n hi hn _; simp [gd] at *; (first | lia | omega)
  | succ k ih =>
    intro i n hi hn h
    rw [run_succ] at h
    have hm := Nat.mod_lt n (p16 k)
    have hdm : n / 16 ^ k * 16 ^ k + n % 16 ^ k = n := by rw [Nat.mul_comm]; exact Nat.div_add_mod _ _
    cases hs : stp l r i (n / 16 ^ k) with
    | none => rw [hs] at h; cases h
    | some j =>
      rw [hs] at h
      have hj := (stp_lt H hi hs).1
      have hv := Nat.lt_of_lt_of_le (vl_lt H k j _ hj h) (cnt_le H k j)
      have hsp := splitc (d := n / 16 ^ k) hv
      show (n / 16 ^ k * cnt l r k 0 + vl l r k (n % 16 ^ k)) / cnt l r k 0 * 16 ^ k + gd l r k ((n / 16 ^ k * cnt l r k 0 + vl l r k (n % 16 ^ k)) % cnt l r k 0) = n
      rw [hsp.1, hsp.2, ih j _ hj hm h]
      exact hdm
/-- the order of the values is the order of the writings -/
theorem vl_mono (H : Lim l r) : ∀ k i m n, i < r → m < n → n < 16 ^ k → (run l r k i m).isSome → (run l r k i n).isSome → vl l r k m < vl l r k n := by
  intro k
  induction k with
  | zero => intro i m n _ h1 h2; simp at h2; (first | lia | omega)
  | succ k ih =>
    intro i m n hi hmn hn h1 h2
    rw [run_succ] at h1 h2
    have em : m / 16 ^ k * 16 ^ k + m % 16 ^ k = m := by rw [Nat.mul_comm]; exact Nat.div_add_mod _ _
    have en : n / 16 ^ k * 16 ^ k + n % 16 ^ k = n := by rw [Nat.mul_comm]; exact Nat.div_add_mod _ _
    have hm' := Nat.mod_lt m (p16 k)
    have hn' := Nat.mod_lt n (p16 k)
    have hle : m / 16 ^ k ≤ n / 16 ^ k := Nat.div_le_div_right (Nat.le_of_lt hmn)
    show m / 16 ^ k * cnt l r k 0 + vl l r k (m % 16 ^ k) < n / 16 ^ k * cnt l r k 0 + vl l r k (n % 16 ^ k)
    cases hs1 : stp l r i (m / 16 ^ k) with
    | none => rw [hs1] at h1; cases h1
    | some j1 =>
      cases hs2 : stp l r i (n / 16 ^ k) with
      | none => rw [hs2] at h2; cases h2
      | some j2 =>
        rw [hs1] at h1
        rw [hs2] at h2
        have hj1 := (stp_lt H hi hs1).1
        have hj2 := (stp_lt H hi hs2).1
        rcases Nat.lt_or_eq_of_le hle with h | h
        · have := Nat.mul_le_mul_right (cnt l r k 0) (show m / 16 ^ k + 1 ≤ n / 16 ^ k from h)
          rw [Nat.add_mul, Nat.one_mul] at this
          have := Nat.lt_of_lt_of_le (vl_lt H k j1 _ hj1 h1) (cnt_le H k j1)
          (first | lia | omega)
        · rw [h] at hs1 em ⊢
          rw [hs1] at hs2
          cases hs2
          have := ih j1 _ _ hj1 (show m % 16 ^ k < n % 16 ^ k by (first | lia | omega)) hn' h1 h2
          (first | lia | omega)
/-- one figure more behind -/
theorem run_snoc : ∀ k i n d, n < 16 ^ k → d < 16 → run l r (k + 1) i (16 * n + d) = (run l r k i n).bind fun j => stp l r j d := by
  intro k
  induction k with
  | zero =>
    intro i n d hn hd
    have : n = 0 := by simpa using hn
    subst this
    rw [run_succ]
    simp only [run, Nat.pow_zero, Nat.div_one, Nat.mul_zero, Nat.zero_add, Option.bind_some]
    cases stp l r i d <;> rfl
  | succ k ih =>
    intro i n d hn hd
    rw [run_succ (k := k + 1), run_succ (k := k)]
    have e1 : (16 * n + d) / 16 ^ (k + 1) = n / 16 ^ k := by
      rw [Nat.pow_succ, Nat.mul_comm (16 ^ k), ← Nat.div_div_eq_div_mul, show (16 * n + d) / 16 = n by (first | lia | omega)]
    have e2 : (16 * n + d) % 16 ^ (k + 1) = 16 * (n % 16 ^ k) + d := by
      rw [Nat.pow_succ, Nat.mul_comm (16 ^ k), Nat.mod_mul, show (16 * n + d) / 16 = n by (first | lia | omega), show (16 * n + d) % 16 = d by (first | lia | omega)]
      (first | lia | omega)
    rw [e1, e2]
    cases stp l r i (n / 16 ^ k) with
    | none => rfl
    | some j => exact ih j _ d (Nat.mod_lt _ (p16 k)) hd
theorem run_zero (H : Lim l r) : ∀ k, run l r k 0 0 = some 0
  | 0 => rfl
  | k + 1 => by
    rw [run_succ, Nat.zero_div, Nat.zero_mod, show stp l r 0 0 = some 0 by unfold stp; rw [if_pos (show 0 < l 0 from H.pos 0 H.r0)]]
    exact run_zero H k
/-- zeros ahead -/
theorem run_more (H : Lim l r) {k n : Nat} (hn : n < 16 ^ k) : ∀ t, run l r (k + t) 0 n = run l r k 0 n
  | 0 => rfl
  | t + 1 => by
    have hlt : n < 16 ^ (k + t) := Nat.lt_of_lt_of_le hn (Nat.pow_le_pow_right (by decide) (by (first | lia | omega)))
    show run l r (k + t + 1) 0 n = _
    rw [run_succ, Nat.div_eq_of_lt hlt, Nat.mod_eq_of_lt hlt, show stp l r 0 0 = some 0 by unfold stp; rw [if_pos (show 0 < l 0 from H.pos 0 H.r0)]]
    exact run_more H hn t
theorem vl_more {k n : Nat} (hn : n < 16 ^ k) : ∀ t, vl l r (k + t) n = vl l r k n
  | 0 => rfl
  | t + 1 => by
    have hlt : n < 16 ^ (k + t) := Nat.lt_of_lt_of_le hn (Nat.pow_le_pow_right (by decide) (by (first | lia | omega)))
    show n / 16 ^ (k + t) * cnt l r (k + t) 0 + vl l r (k + t) (n % 16 ^ (k + t)) = _
    rw [Nat.div_eq_of_lt hlt, Nat.mod_eq_of_lt hlt, Nat.zero_mul, Nat.zero_add]
    exact vl_more hn t
theorem seam {k s p x : Nat} (hx : x < 16 ^ s) : (p * 16 ^ s + x) / 16 ^ (k + s) = p / 16 ^ k ∧ (p * 16 ^ s + x) % 16 ^ (k + s) = p % 16 ^ k * 16 ^ s + x := by
  have h := split16 (d := p) hx
  rw [Nat.add_comm k s, Nat.pow_add]
  constructor
  · rw [← Nat.div_div_eq_div_mul, h.1]
  · rw [Nat.mod_mul, h.1, h.2, Nat.mul_comm (16 ^ s), Nat.add_comm]
/-- a word goes on: its state at the seam -/
theorem run_app {s : Nat} : ∀ k i p x, p < 16 ^ k → x < 16 ^ s → run l r (k + s) i (p * 16 ^ s + x) = (run l r k i p).bind fun j => run l r s j x := by
  intro k
  induction k with
  | zero =>
    intro i p x hp hx
    have : p = 0 := by simpa using hp
    subst this
    rw [Nat.zero_add, Nat.zero_mul, Nat.zero_add]
    rfl
  | succ k ih =>
    intro i p x hp hx
    rw [Nat.add_right_comm, run_succ, run_succ, (seam hx).1, (seam hx).2]
    cases stp l r i (p / 16 ^ k) with
    | none => rfl
    | some j => exact ih j _ x (Nat.mod_lt _ (p16 k)) hx
theorem vl_succ {k n : Nat} : vl l r (k + 1) n = n / 16 ^ k * cnt l r k 0 + vl l r k (n % 16 ^ k) := rfl
theorem vl_app {s : Nat} : ∀ k p x, p < 16 ^ k → x < 16 ^ s → vl l r (k + s) (p * 16 ^ s + x) = vl l r (k + s) (p * 16 ^ s) + vl l r s x := by
  intro k
  induction k with
  | zero =>
    intro p x hp hx
    have : p = 0 := by simpa using hp
    subst this
    rw [Nat.zero_add, Nat.zero_mul, Nat.zero_add]
    have h0 : vl l r s 0 = 0 := by have := vl_more (l := l) (r := r) (k := 0) (n := 0) (by decide) s; rw [Nat.zero_add] at this; exact this
    (first | lia | omega)
  | succ k ih =>
    intro p x hp hx
    have h0 := seam (k := k) (p := p) (p16 s)
    rw [Nat.add_zero, Nat.add_zero] at h0
    rw [Nat.add_right_comm, vl_succ, vl_succ, (seam hx).1, (seam hx).2, h0.1, h0.2, ih _ x (Nat.mod_lt _ (p16 k)) hx, Nat.add_assoc]
theorem vl_up (H : Lim l r) {s : Nat} : ∀ k p, p < 16 ^ k → vl l r (k + s) (p * 16 ^ s) ≤ vl l r k p * cnt l r s 0 := by
  intro k
  induction k with
  | zero =>
    intro p hp
    have : p = 0 := by simpa using hp
    subst this
    rw [Nat.zero_add, Nat.zero_mul]
    have h0 : vl l r s 0 = 0 := by have := vl_more (l := l) (r := r) (k := 0) (n := 0) (by decide) s; rw [Nat.zero_add] at this; exact this
    (first | lia | omega)
  | succ k ih =>
    intro p hp
    have h0 := seam (k := k) (p := p) (p16 s)
    rw [Nat.add_zero, Nat.add_zero] at h0
    rw [Nat.add_right_comm, vl_succ, vl_succ, h0.1, h0.2, Nat.add_mul, Nat.mul_assoc]
    have h1 := Nat.mul_le_mul_left (p / 16 ^ k) (cnt_mul H s k 0)
    have h2 := ih (p % 16 ^ k) (Nat.mod_lt _ (p16 k))
    (first | lia | omega)
end
end Mine
end
section
namespace Mine
/-! the plain law of the heap that notes: all words that go on from root, in order -/
theorem self_lt : ∀ n : Nat, n < 16 ^ n
  | 0 => by decide
  | n + 1 => by have := self_lt n; rw [Nat.pow_succ]; (first | lia | omega)
/-- the state behind a writing -/
def sta (l : Nat → Nat) (r n : Nat) : Option Nat := run l r n 0 n
def Fre (l : Nat → Nat) (r n : Nat) : Prop := (sta l r n).isSome
section
variable {l : Nat → Nat} {r : Nat}
theorem run_sta (H : Lim l r) {k n : Nat} (hn : n < 16 ^ k) : run l r k 0 n = sta l r n := by
  have h1 := run_more H hn n
  have h2 := run_more H (self_lt n) k
  unfold sta
  rw [← h2, ← h1, Nat.add_comm]
theorem sta_snoc (H : Lim l r) {n d : Nat} (hd : d < 16) : sta l r (16 * n + d) = (sta l r n).bind fun j => stp l r j d := by
  have h := run_snoc (l := l) (r := r) n 0 n d (self_lt n) hd
  have hlt : 16 * n + d < 16 ^ (n + 1) := by have := self_lt n; rw [Nat.pow_succ]; (first | lia | omega)
  rw [← run_sta H hlt, h]
  rfl
theorem sta_zero : sta l r 0 = some 0 := rfl
theorem sta_lt (H : Lim l r) : ∀ n j, sta l r n = some j → j < r := by
  intro n
  induction n using Nat.strongRecOn with
  | _ n ih =>
    intro j h
    by_cases hn : n = 0
    · subst hn; cases h; exact H.r0
    · have e : n = 16 * (n / 16) + n % 16 := by (first | lia | omega)
      rw [e, sta_snoc H (Nat.mod_lt _ (by decide))] at h
      cases hs : sta l r (n / 16) with
      | none => rw [hs] at h; cases h
      | some i =>
        rw [hs] at h
        exact (stp_lt H (ih _ (by (first | lia | omega)) i hs) h).1
theorem fre_up (H : Lim l r) {n d : Nat} (hd : d < 16) (h : Fre l r (16 * n + d)) : Fre l r n ∧ d ≤ l 0 := by
  unfold Fre at h ⊢
  rw [sta_snoc H hd] at h
  cases hs : sta l r n with
  | none => rw [hs] at h; cases h
  | some i =>
    rw [hs] at h
    refine ⟨rfl, ?_⟩
    have hi := sta_lt H n i hs
    cases h2 : stp l r i d with
    | none => rw [show (some i).bind (fun j => stp l r j d) = stp l r i d from rfl, h2] at h; cases h
    | some j => exact Nat.le_trans (stp_lt H hi h2).2 (l_le H i hi)
inductive Ext (l : Nat → Nat) (r root : Nat) : Nat → Prop
  | root : Ext l r root root
  | child {p d : Nat} : Ext l r root p → d < 16 → Fre l r (16 * p + d) → Ext l r root (16 * p + d)
def Cand (l : Nat → Nat) (r root x : Nat) : Prop := x = root ∨ (Ext l r root (x / 16) ∧ x % 16 ≤ l 0)
variable {root : Nat}
theorem Ext.fre (hr : Fre l r root) {x : Nat} (h : Ext l r root x) : Fre l r x := by
  cases h with
  | root => exact hr
  | child _ _ h => exact h
theorem Ext.ge {x : Nat} (h : Ext l r root x) : root ≤ x := by
  induction h with
  | root => exact Nat.le_refl _
  | child _ _ _ ih => (first | lia | omega)
theorem Ext.cand (H : Lim l r) {x : Nat} (h : Ext l r root x) : Cand l r root x := by
  cases h with
  | root => exact .inl rfl
  | @child p d hp hd hf =>
    refine .inr ⟨?_, ?_⟩
    · rw [show (16 * p + d) / 16 = p by (first | lia | omega)]; exact hp
    · rw [show (16 * p + d) % 16 = d by (first | lia | omega)]; exact (fre_up H hd hf).2
theorem Cand.ext {x : Nat} (h : Cand l r root x) (hf : Fre l r x) : Ext l r root x := by
  rcases h with rfl | ⟨h, _⟩
  · exact .root
  · have e : x = 16 * (x / 16) + x % 16 := by (first | lia | omega)
    rw [e]
    exact .child h (Nat.mod_lt _ (by decide)) (by rw [← e]; exact hf)
theorem Cand.ge {x : Nat} (h : Cand l r root x) : root ≤ x := by
  rcases h with rfl | ⟨h, _⟩
  · exact Nat.le_refl _
  · have := h.ge; (first | lia | omega)
theorem Ext.zero (H : Lim l r) (hr : Fre l r root) {x : Nat} (h : Ext l r root x) : Ext l r root (16 * x) := by
  have : Fre l r (16 * x + 0) := by
    unfold Fre
    rw [sta_snoc H (by decide)]
    have hf := h.fre hr
    unfold Fre at hf
    cases hs : sta l r x with
    | none => rw [hs] at hf; cases hf
    | some i =>
      show (stp l r i 0).isSome
      unfold stp
      rw [if_pos (show 0 < l i from H.pos i (sta_lt H x i hs))]
      rfl
  exact .child h (by decide) this
open Classical in
noncomputable def inS (l : Nat → Nat) (r root x : Nat) : Bool := decide (Ext l r root x)
theorem inS_iff {x : Nat} : inS l r root x = true ↔ Ext l r root x := by unfold inS; exact @decide_eq_true_iff _ (Classical.propDecidable _)
theorem inS_not {x : Nat} : inS l r root x = false ↔ ¬ Ext l r root x := by unfold inS; exact @decide_eq_false_iff_not _ (Classical.propDecidable _)
/-- the words below t -/
noncomputable def upTo (l : Nat → Nat) (r root t : Nat) : List Nat := (List.range t).filter (inS l r root)
theorem upTo_succ {t : Nat} : upTo l r root (t + 1) = upTo l r root t ++ if inS l r root t then [t] else [] := by
  unfold upTo
  rw [List.range_succ, List.filter_append]
  congr 1
  simp [List.filter_cons]
theorem upTo_same {t : Nat} : ∀ n, (∀ x, t ≤ x → x < t + n → ¬ Ext l r root x) → upTo l r root (t + n) = upTo l r root t
  | 0, _ => rfl
  | n + 1, h => by
    show upTo l r root (t + n + 1) = _
    rw [upTo_succ, inS_not.mpr (h (t + n) (by (first | lia | omega)) (by (first | lia | omega))), upTo_same n fun x h1 h2 => h x h1 (by (first | lia | omega))]
    simp
theorem upTo_skip {t u : Nat} (h : t ≤ u) (hn : ∀ x, t ≤ x → x < u → ¬ Ext l r root x) : upTo l r root u = upTo l r root t := by
  have := upTo_same (l := l) (r := r) (root := root) (t := t) (u - t) (fun x h1 h2 => hn x h1 (by (first | lia | omega)))
  rwa [show t + (u - t) = u by (first | lia | omega)] at this
theorem upTo_le {t : Nat} : ∀ n, ∃ e, upTo l r root (t + n) = upTo l r root t ++ e
  | 0 => ⟨[], by simp⟩
  | n + 1 => by
    obtain ⟨e, he⟩ := upTo_le (t := t) n
    exact ⟨e ++ if inS l r root (t + n) then [t + n] else [], by rw [show t + (n + 1) = t + n + 1 from rfl, upTo_succ, he, List.append_assoc]⟩
theorem upTo_uniq {t u : Nat} (h : (upTo l r root t).length = (upTo l r root u).length) : upTo l r root t = upTo l r root u := by
  rcases Nat.le_total t u with hle | hle
  · obtain ⟨e, he⟩ := upTo_le (l := l) (r := r) (root := root) (t := t) (u - t)
    rw [show t + (u - t) = u by (first | lia | omega)] at he
    rw [he, List.length_append] at h
    rw [he, List.eq_nil_of_length_eq_zero (show e.length = 0 by (first | lia | omega)), List.append_nil]
  · obtain ⟨e, he⟩ := upTo_le (l := l) (r := r) (root := root) (t := u) (t - u)
    rw [show u + (t - u) = t by (first | lia | omega)] at he
    rw [he, List.length_append] at h
    rw [he, List.eq_nil_of_length_eq_zero (show e.length = 0 by (first | lia | omega)), List.append_nil]
theorem upTo_more {t u : Nat} (h : (upTo l r root t).length < (upTo l r root u).length) : ∃ y, t ≤ y ∧ y < u ∧ Ext l r root y := by
  apply Classical.byContradiction
  intro hn
  rcases Nat.le_total t u with hle | hle
  · rw [upTo_skip hle fun x h1 h2 h3 => hn ⟨x, h1, h2, h3⟩] at h
    exact Nat.lt_irrefl _ h
  · obtain ⟨e, he⟩ := upTo_le (l := l) (r := r) (root := root) (t := u) (t - u)
    rw [show u + (t - u) = t by (first | lia | omega)] at he
    rw [he, List.length_append] at h
    (first | lia | omega)
/-- what holds of the heap and of the noted words between two turns -/
structure NI (l : Nat → Nat) (r root t : Nat) (H N : List Nat) : Prop where
  lo : ∀ h ∈ H, t ≤ h ∧ Cand l r root h ∧ h / 16 < t
  apart : H.Pairwise fun a b => a / 16 ≠ b / 16
  cov : ∀ x, Cand l r root x → t ≤ x → x / 16 < t → ∃ h ∈ H, h / 16 = x / 16 ∧ h ≤ x
  noted : N = upTo l r root t
  rt : root ≤ t
theorem NI.start (h0 : 1 ≤ root) : NI l r root root [root] [] := by
  refine ⟨?_, by simp, ?_, ?_, ?_⟩
  · intro h hh
    rw [List.mem_singleton.mp hh]
    exact ⟨Nat.le_refl _, .inl rfl, by (first | lia | omega)⟩
  · intro x hx _ h2
    rcases hx with rfl | ⟨hx, _⟩
    · exact ⟨x, .head _, rfl, Nat.le_refl _⟩
    · have := hx.ge; (first | lia | omega)
  · have := upTo_skip (l := l) (r := r) (root := root) (t := 0) (u := root) (Nat.zero_le _) fun x _ h2 h3 => absurd h3.ge (by (first | lia | omega))
    exact this.symm
  · exact Nat.le_refl _
theorem NI.perm {t : Nat} {H H' N : List Nat} (I : NI l r root t H N) (p : H.Perm H') : NI l r root t H' N := by
  obtain ⟨lo, apart, cov, noted, rt⟩ := I
  refine ⟨fun h hh => lo h (p.mem_iff.mpr hh), (p.pairwise_iff (fun h => Ne.symm h)).mp apart, fun x a b c => ?_, noted, rt⟩
  obtain ⟨h, h1, h2⟩ := cov x a b c
  exact ⟨h, p.mem_iff.mp h1, h2⟩
theorem NI.reach (L : Lim l r) (h0 : 1 ≤ root) {t : Nat} {H N : List Nat} (I : NI l r root t H N) : ∀ x, Cand l r root x → t ≤ x → ∃ h ∈ H, h ≤ x := by
  intro x
  induction x using Nat.strongRecOn with
  | _ x ih =>
    intro hx ht
    by_cases hq : x / 16 < t
    · obtain ⟨h, h1, h2, h3⟩ := I.cov x hx ht hq
      exact ⟨h, h1, h3⟩
    · have hrt := I.rt
      rcases hx with rfl | ⟨hx, _⟩
      · (first | lia | omega)
      · obtain ⟨h, h1, h2⟩ := ih (x / 16) (by have := hx.ge; (first | lia | omega)) (hx.cand L) (by (first | lia | omega))
        exact ⟨h, h1, by (first | lia | omega)⟩
theorem NI.next (L : Lim l r) (h0 : 1 ≤ root) (hr : Fre l r root) {t m : Nat} {R N : List Nat} (I : NI l r root t (m :: R) N) (hm : ∀ h ∈ R, m ≤ h) :
    NI l r root (m + 1) ((if m ≠ root ∧ m % 16 < l 0 then [m + 1] else []) ++ ((if inS l r root m then [16 * m] else []) ++ R)) (if inS l r root m then N ++ [m] else N) := by
  have hlo := I.lo m (.head _)
  have hap := List.pairwise_cons.mp I.apart
  have hne : ∀ h ∈ R, m < h := fun h hh => Nat.lt_of_le_of_ne (hm h hh) fun e => hap.1 h hh (by rw [e])
  have hrt := I.rt
  have hsib : m ≠ root ∧ m % 16 < l 0 → (m + 1) / 16 = m / 16 := by
    intro h
    have := L.le9 0 L.r0
    (first | lia | omega)
  refine ⟨?_, ?_, ?_, ?_, by (first | lia | omega)⟩
  · intro h hh
    rcases List.mem_append.mp hh with hh | hh
    · split at hh
      · rename_i hc
        rw [List.mem_singleton.mp hh]
        have hs := hsib hc
        refine ⟨Nat.le_refl _, .inr ?_, by (first | lia | omega)⟩
        rcases hlo.2.1 with e | ⟨h1, h2⟩
        · exact absurd e hc.1
        · rw [hs]
          refine ⟨h1, ?_⟩
          have := L.le9 0 L.r0
          (first | lia | omega)
      · cases hh
    · rcases List.mem_append.mp hh with hh | hh
      · split at hh
        · rename_i hc
          rw [List.mem_singleton.mp hh]
          refine ⟨by (first | lia | omega), .inr ?_, by (first | lia | omega)⟩
          rw [show 16 * m / 16 = m by (first | lia | omega), show 16 * m % 16 = 0 by (first | lia | omega)]
          exact ⟨inS_iff.mp hc, Nat.zero_le _⟩
        · cases hh
      · have := I.lo h (.tail _ hh)
        exact ⟨hne h hh, this.2.1, by (first | lia | omega)⟩
  · have h16 : ∀ b ∈ R, 16 * m / 16 ≠ b / 16 := fun b hb => by have := (I.lo b (.tail _ hb)).2.2; (first | lia | omega)
    refine List.pairwise_append.mpr ⟨by split <;> simp, List.pairwise_append.mpr ⟨by split <;> simp, hap.2, ?_⟩, ?_⟩
    · intro a ha b hb
      split at ha
      · rw [List.mem_singleton.mp ha]; exact h16 b hb
      · cases ha
    · intro a ha b hb
      split at ha
      · rename_i hc
        rw [List.mem_singleton.mp ha, hsib hc]
        rcases List.mem_append.mp hb with hb | hb
        · split at hb
          · rw [List.mem_singleton.mp hb]; (first | lia | omega)
          · cases hb
        · exact hap.1 b hb
      · cases ha
  · intro x hx hxm hxq
    by_cases hq : x / 16 < t
    · obtain ⟨h, h1, h2, h3⟩ := I.cov x hx (by (first | lia | omega)) hq
      rcases List.mem_cons.mp h1 with rfl | h1
      · have hxr : x ≠ root := by (first | lia | omega)
        rcases hx with e | ⟨h4, h5⟩
        · exact absurd e hxr
        · have hhr : h ≠ root := by intro e; have := h4.ge; (first | lia | omega)
          refine ⟨h + 1, List.mem_append_left _ ?_, ?_, by (first | lia | omega)⟩
          · rw [if_pos ⟨hhr, by (first | lia | omega)⟩]; exact .head _
          · rw [hsib ⟨hhr, by (first | lia | omega)⟩]; exact h2
      · exact ⟨h, List.mem_append_right _ (List.mem_append_right _ h1), h2, h3⟩
    · rcases hx with rfl | ⟨h4, h5⟩
      · (first | lia | omega)
      · obtain ⟨h, h1, h2⟩ := I.reach L h0 (x / 16) (h4.cand L) (by (first | lia | omega))
        have hmm : m ≤ h := by
          rcases List.mem_cons.mp h1 with rfl | h1
          · exact Nat.le_refl _
          · exact hm h h1
        have e : x / 16 = m := by (first | lia | omega)
        rw [e] at h4
        refine ⟨16 * m, List.mem_append_right _ (List.mem_append_left _ ?_), by (first | lia | omega), by (first | lia | omega)⟩
        rw [if_pos (inS_iff.mpr h4)]; exact .head _
  · have hskip : upTo l r root m = upTo l r root t := upTo_skip hlo.1 fun x h1 h2 h3 => by
      obtain ⟨h, h4, h5⟩ := I.reach L h0 x (h3.cand L) h1
      rcases List.mem_cons.mp h4 with rfl | h4
      · (first | lia | omega)
      · have := hm h h4; (first | lia | omega)
    rw [upTo_succ, hskip, ← I.noted]
    cases inS l r root m <;> simp
end
end Mine
end
section
namespace Mine
/-! the plain law of the row: the levels behind root, one after the other -/
section
variable {l : Nat → Nat} {r : Nat}
theorem gd_more (H : Lim l r) {k v : Nat} (hv : v < cnt l r k 0) : ∀ t, gd l r (k + t) v = gd l r k v
  | 0 => rfl
  | t + 1 => by
    have hlt : v < cnt l r (k + t) 0 := Nat.lt_of_lt_of_le hv (cnt_mono' H t)
    show v / cnt l r (k + t) 0 * 16 ^ (k + t) + gd l r (k + t) (v % cnt l r (k + t) 0) = _
    rw [Nat.div_eq_of_lt hlt, Nat.mod_eq_of_lt hlt, Nat.zero_mul, Nat.zero_add]
    exact gd_more H hv t
theorem gd_le (H : Lim l r) {j k v : Nat} (hj : v < cnt l r j 0) (hk : v < cnt l r k 0) : gd l r j v = gd l r k v := by
  rcases Nat.le_total j k with h | h
  · have := gd_more H hj (k - j); rw [show j + (k - j) = k by (first | lia | omega)] at this; exact this.symm
  · have := gd_more H hk (j - k); rwa [show k + (j - k) = j by (first | lia | omega)] at this
theorem vl_le {j k n : Nat} (hj : n < 16 ^ j) (hk : n < 16 ^ k) : vl l r j n = vl l r k n := by
  rcases Nat.le_total j k with h | h
  · have := vl_more (l := l) (r := r) hj (k - j); rw [show j + (k - j) = k by (first | lia | omega)] at this; exact this.symm
  · have := vl_more (l := l) (r := r) hk (j - k); rwa [show k + (j - k) = j by (first | lia | omega)] at this
variable {root : Nat}
theorem ext_level {y : Nat} (hr : Fre l r root) (h : Ext l r root y) : ∃ s x, x < 16 ^ s ∧ y = root * 16 ^ s + x ∧ Fre l r y := by
  induction h with
  | root => exact ⟨0, 0, by decide, by simp, hr⟩
  | @child p d hp hd hf ih =>
    obtain ⟨s, x, hx, e, _⟩ := ih
    refine ⟨s + 1, 16 * x + d, ?_, ?_, hf⟩
    · rw [Nat.pow_succ]; (first | lia | omega)
    · rw [e, Nat.pow_succ, ← Nat.mul_assoc]; (first | lia | omega)
theorem level_ext (H : Lim l r) : ∀ s x, x < 16 ^ s → Fre l r (root * 16 ^ s + x) → Ext l r root (root * 16 ^ s + x)
  | 0, x, hx, h => by
    have : x = 0 := by simpa using hx
    subst this
    simp
    exact .root
  | s + 1, x, hx, h => by
    have e : root * 16 ^ (s + 1) + x = 16 * (root * 16 ^ s + x / 16) + x % 16 := by rw [Nat.pow_succ, ← Nat.mul_assoc]; (first | lia | omega)
    rw [e] at h ⊢
    have hx' : x / 16 < 16 ^ s := by rw [Nat.pow_succ] at hx; (first | lia | omega)
    exact .child (level_ext H s _ hx' (fre_up H (Nat.mod_lt _ (by decide)) h).1) (Nat.mod_lt _ (by decide)) h
theorem level_uniq {s u x y : Nat} (h0 : 1 ≤ root) (hx : x < 16 ^ u) (e : y = root * 16 ^ u + x) (h1 : root * 16 ^ s ≤ y) (h2 : y < root * 16 ^ (s + 1)) : u = s := by
  rcases Nat.lt_trichotomy u s with h | h | h
  · exfalso
    have a : 16 ^ (u + 1) ≤ 16 ^ s := Nat.pow_le_pow_right (by decide) h
    have b := Nat.mul_le_mul_left root a
    rw [Nat.pow_succ, ← Nat.mul_assoc] at b
    have c : 16 ^ u ≤ root * 16 ^ u := Nat.le_mul_of_pos_left _ h0
    (first | lia | omega)
  · exact h
  · exfalso
    have a : 16 ^ (s + 1) ≤ 16 ^ u := Nat.pow_le_pow_right (by decide) h
    have b := Nat.mul_le_mul_left root a
    (first | lia | omega)
/-- root's state and value, its place among the words -/
structure Rt (l : Nat → Nat) (r root i k0 n0 : Nat) : Prop where
  lim : Lim l r
  pos : 1 ≤ root
  lt : root < 16 ^ k0
  st : run l r k0 0 root = some i
  val : vl l r k0 root = n0
variable {i k0 n0 : Nat}
theorem Rt.ilt (R : Rt l r root i k0 n0) : i < r := sta_lt R.lim root i (by rw [← run_sta R.lim R.lt]; exact R.st)
theorem Rt.fre (R : Rt l r root i k0 n0) : Fre l r root := by
  unfold Fre
  rw [← run_sta R.lim R.lt, R.st]
  rfl
theorem lev_lt (R : Rt l r root i k0 n0) {s x : Nat} (hx : x < 16 ^ s) : root * 16 ^ s + x < 16 ^ (k0 + s) := by
  have := Nat.mul_le_mul_right (16 ^ s) (show root + 1 ≤ 16 ^ k0 from R.lt)
  rw [Nat.add_mul, Nat.one_mul, ← Nat.pow_add] at this
  (first | lia | omega)
theorem lev_run (R : Rt l r root i k0 n0) {s x : Nat} (hx : x < 16 ^ s) : run l r (k0 + s) 0 (root * 16 ^ s + x) = run l r s i x := by
  rw [run_app k0 0 root x R.lt hx, R.st]
  rfl
theorem lev_fre (R : Rt l r root i k0 n0) {s x : Nat} (hx : x < 16 ^ s) : Fre l r (root * 16 ^ s + x) ↔ (run l r s i x).isSome := by
  unfold Fre
  rw [← run_sta R.lim (lev_lt R hx), lev_run R hx]
def lv (l : Nat → Nat) (r root k0 s : Nat) : Nat := vl l r (k0 + s) (root * 16 ^ s)
theorem lv_le (R : Rt l r root i k0 n0) (s : Nat) : lv l r root k0 s ≤ n0 * cnt l r s 0 := R.val ▸ vl_up R.lim k0 root R.lt
/-- the c-th word of level s; behind the last one the first of the next level -/
def wd (l : Nat → Nat) (r root i s c : Nat) : Nat := if c < cnt l r s i then root * 16 ^ s + gd l r s c else root * 16 ^ (s + 1)
theorem wd_in (R : Rt l r root i k0 n0) {s c : Nat} (hc : c < cnt l r s i) : (wd l r root i s c) / 16 ^ s = root ∧ Ext l r root (wd l r root i s c) ∧ (∀ k, lv l r root k0 s + c < cnt l r k 0 → gd l r k (lv l r root k0 s + c) = wd l r root i s c) := by
  unfold wd
  rw [if_pos hc]
  obtain ⟨g1, g2, g3⟩ := gd_ok R.lim s i c R.ilt hc
  have hf := (lev_fre R g2).mpr g1
  refine ⟨(split16 g2).1, level_ext R.lim s _ g2 hf, fun k hk => ?_⟩
  have hv : vl l r (k0 + s) (root * 16 ^ s + gd l r s c) = lv l r root k0 s + c := by rw [vl_app k0 root _ R.lt g2, g3]; rfl
  have hsome : (run l r (k0 + s) 0 (root * 16 ^ s + gd l r s c)).isSome := by rw [lev_run R g2]; exact g1
  have hlt := vl_lt R.lim (k0 + s) 0 _ R.lim.r0 hsome
  have hgd := gd_vl R.lim (k0 + s) 0 _ R.lim.r0 (lev_lt R g2) hsome
  rw [hv] at hlt hgd
  rw [gd_le R.lim hk hlt, hgd]
theorem wd_out (R : Rt l r root i k0 n0) {s k : Nat} (hk : lv l r root k0 s + cnt l r s i < cnt l r k 0) : gd l r k (lv l r root k0 s + cnt l r s i) / 16 ^ s ≠ root := by
  intro e
  have hk2 : lv l r root k0 s + cnt l r s i < cnt l r (k + (k0 + s)) 0 := Nat.lt_of_lt_of_le hk (cnt_mono' R.lim _)
  rw [gd_le R.lim hk hk2] at e
  obtain ⟨g1, g2, g3⟩ := gd_ok R.lim _ 0 _ R.lim.r0 hk2
  generalize gd l r (k + (k0 + s)) (lv l r root k0 s + cnt l r s i) = y at *
  have hm := Nat.mod_lt y (p16 s)
  have hy : y = root * 16 ^ s + y % 16 ^ s := by have := Nat.div_add_mod y (16 ^ s); rw [e, Nat.mul_comm] at this; exact this.symm
  have hlt := lev_lt R hm
  rw [← hy] at hlt
  have h1 : run l r (k + (k0 + s)) 0 y = run l r s i (y % 16 ^ s) := by
    rw [run_sta R.lim g2, ← run_sta R.lim hlt]
    conv => lhs; rw [hy]
    exact lev_run R hm
  rw [h1] at g1
  have h2 := vl_lt R.lim s i _ R.ilt g1
  have h3 : vl l r (k + (k0 + s)) y = lv l r root k0 s + vl l r s (y % 16 ^ s) := by
    rw [vl_le g2 hlt]
    conv => lhs; rw [hy]
    exact vl_app k0 root _ R.lt hm
  (first | lia | omega)
theorem wd_gap (R : Rt l r root i k0 n0) {s c : Nat} (hc : c < cnt l r s i) : wd l r root i s c < wd l r root i s (c + 1) ∧ ∀ y, wd l r root i s c < y → y < wd l r root i s (c + 1) → ¬ Ext l r root y := by
  obtain ⟨g1, g2, g3⟩ := gd_ok R.lim s i c R.ilt hc
  have e : wd l r root i s c = root * 16 ^ s + gd l r s c := if_pos hc
  have htop : root * 16 ^ s + gd l r s c < root * 16 ^ (s + 1) := by
    rw [Nat.pow_succ, ← Nat.mul_assoc]
    have := Nat.le_mul_of_pos_left (16 ^ s) R.pos
    (first | lia | omega)
  by_cases hc1 : c + 1 < cnt l r s i
  · obtain ⟨f1, f2, f3⟩ := gd_ok R.lim s i (c + 1) R.ilt hc1
    have e1 : wd l r root i s (c + 1) = root * 16 ^ s + gd l r s (c + 1) := if_pos hc1
    have htop1 : root * 16 ^ s + gd l r s (c + 1) < root * 16 ^ (s + 1) := by
      rw [Nat.pow_succ, ← Nat.mul_assoc]
      have := Nat.le_mul_of_pos_left (16 ^ s) R.pos
      (first | lia | omega)
    have hlt : gd l r s c < gd l r s (c + 1) := by
      rcases Nat.lt_trichotomy (gd l r s c) (gd l r s (c + 1)) with h | h | h
      · exact h
      · rw [h, f3] at g3; (first | lia | omega)
      · have := vl_mono R.lim s i _ _ R.ilt h g2 f1 g1; (first | lia | omega)
    refine ⟨by (first | lia | omega), fun y h1 h2 hy => ?_⟩
    obtain ⟨u, x, hx, ey, hf⟩ := ext_level R.fre hy
    have hu : u = s := level_uniq R.pos hx ey (by (first | lia | omega)) (by (first | lia | omega))
    subst hu
    rw [ey] at hf
    have hs := (lev_fre R hx).mp hf
    have a := vl_mono R.lim u i _ x R.ilt (show gd l r u c < x by (first | lia | omega)) hx g1 hs
    have b := vl_mono R.lim u i x _ R.ilt (show x < gd l r u (c + 1) by (first | lia | omega)) f2 hs f1
    (first | lia | omega)
  · have e1 : wd l r root i s (c + 1) = root * 16 ^ (s + 1) := if_neg hc1
    refine ⟨by (first | lia | omega), fun y h1 h2 hy => ?_⟩
    obtain ⟨u, x, hx, ey, hf⟩ := ext_level R.fre hy
    have hu : u = s := level_uniq R.pos hx ey (by (first | lia | omega)) (by (first | lia | omega))
    subst hu
    rw [ey] at hf
    have hs := (lev_fre R hx).mp hf
    have a := vl_mono R.lim u i _ x R.ilt (show gd l r u c < x by (first | lia | omega)) hx g1 hs
    have b := vl_lt R.lim u i x R.ilt hs
    (first | lia | omega)
theorem row_next (R : Rt l r root i k0 n0) {s c : Nat} (hc : c < cnt l r s i) : upTo l r root (wd l r root i s (c + 1)) = upTo l r root (wd l r root i s c) ++ [wd l r root i s c] := by
  obtain ⟨h1, h2⟩ := wd_gap R hc
  rw [upTo_skip (t := wd l r root i s c + 1) h1 fun y a b => h2 y a b, upTo_succ, inS_iff.mpr (wd_in R hc).2.1]
  rfl
theorem row_level (R : Rt l r root i k0 n0) {s : Nat} : wd l r root i s (cnt l r s i) = wd l r root i (s + 1) 0 := by
  unfold wd
  rw [if_neg (Nat.lt_irrefl _), if_pos (cnt_pos R.lim _ i R.ilt)]
  have : ∀ k, gd l r k 0 = 0 := by
    intro k
    induction k with
    | zero => rfl
    | succ k ih =>
      show 0 / cnt l r k 0 * 16 ^ k + gd l r k (0 % cnt l r k 0) = 0
      rw [Nat.zero_div, Nat.zero_mod, ih]; simp
  rw [this]
  exact (Nat.add_zero _).symm
theorem row_first (R : Rt l r root i k0 n0) : upTo l r root (wd l r root i 0 0) = [] := by
  have h := cnt_pos R.lim 0 i R.ilt
  unfold wd
  rw [if_pos h]
  have e : root * 16 ^ 0 + gd l r 0 0 = root := by simp [gd]
  rw [e]
  have := upTo_skip (l := l) (r := r) (root := root) (t := 0) (u := root) (Nat.zero_le _) fun x _ h2 h3 => absurd h3.ge (by (first | lia | omega))
  rw [this]; rfl
def tot (l : Nat → Nat) (r i : Nat) : Nat → Nat
  | 0 => 0
  | s + 1 => tot l r i s + cnt l r s i
theorem row_len (R : Rt l r root i k0 n0) : ∀ s c, c ≤ cnt l r s i → (upTo l r root (wd l r root i s c)).length = tot l r i s + c := by
  intro s
  induction s with
  | zero =>
    intro c
    induction c with
    | zero => intro _; rw [row_first R]; rfl
    | succ c ih => intro hc; rw [row_next R hc, List.length_append, ih (by (first | lia | omega))]; rfl
  | succ s ihs =>
    intro c
    induction c with
    | zero => intro _; rw [← row_level R, ihs _ (Nat.le_refl _)]; rfl
    | succ c ih => intro hc; rw [row_next R hc, List.length_append, ih (by (first | lia | omega))]; rfl
theorem tot_mono : ∀ {s t : Nat}, s ≤ t → tot l r i s ≤ tot l r i t := by
  intro s t h
  induction h with
  | refl => exact Nat.le_refl _
  | step _ ih => exact Nat.le_trans ih (Nat.le_add_right _ _)
end
end Mine
end
section
namespace Mine
/-! pieces of _translate's tree, named -/
def sBody : Stmt → List Stmt
  | .While _ b _ _ => b
  | .If _ b _ _ => b
  | .FunctionDef _ _ b _ _ _ _ _ _ _ => b
  | _ => []
def sElse : Stmt → List Stmt
  | .If _ _ e _ => e
  | _ => []
def sScope : Stmt → Scope
  | .FunctionDef _ _ _ _ _ _ s _ _ _ => s
  | _ => default
def sAt (l : List Stmt) (n : Nat) : Stmt := l.getD n (.Pass ⟨0, 0, 0, 0⟩)
def trFn : Stmt := sAt PySem.Challenge.rw_in0246_01.row.prog.main.body 10
def trScope : Scope := sScope trFn
/-- what _translate does with a bracket that is closed -/
def trBr : List Stmt := sElse (sAt (sBody (sAt (sElse (sAt (sElse (sAt (sBody (sAt (sBody trFn) 3)) 2)) 0)) 0)) 4)
theorem fr_to {g h : Heap} {L : Addr} {m m' : Str → Option Value} (F : Fr g L h m) (e : ∀ y, m y = m' y) : Fr g L h m' := by
  have : m = m' := funext e
  exact this ▸ F
/-- the body of its while -/
def trLoop : List Stmt := sBody (sAt (sBody trFn) 3)
theorem at_loop {M : Model} {A : Around} {Q : Flow → Shared → Prop} {E : Value → Shared → Prop} {s : Shared} {env : Env} (h : Hold (wpAny M A (execs trLoop env) Q E s)) : Hold (wpAny M A (execs trLoop env) Q E s) := h
/-- the frame of _translate -/
def tm (v0 v1 v2 v3 v4 v5 v6 v7 v8 v9 v10 v11 v12 : Option Value) : Str → Option Value := fun z =>
  if z = Str.ofString "pat" then v0 else if z = Str.ofString "STAR" then v1 else if z = Str.ofString "QUESTION_MARK" then v2 else if z = Str.ofString "res" then v3 else if z = Str.ofString "add" then v4 else if z = Str.ofString "i" then v5 else if z = Str.ofString "n" then v6 else if z = Str.ofString "c" then v7 else if z = Str.ofString "j" then v8 else if z = Str.ofString "stuff" then v9 else if z = Str.ofString "chunks" then v10 else if z = Str.ofString "k" then v11 else if z = Str.ofString "chunk" then v12 else none
theorem ifn {z n : Str} {a b : Option Value} [Decidable (z = n)] (h : z ≠ n) (k : b = none) : (if z = n then a else b) = none := by
  rw [if_neg h]
  exact k
theorem tmn {z : Str} {v0 v1 v2 v3 v4 v5 v6 v7 v8 v9 v10 v11 v12 : Option Value} (a0 : z ≠ Str.ofString "pat") (a1 : z ≠ Str.ofString "STAR") (a2 : z ≠ Str.ofString "QUESTION_MARK") (a3 : z ≠ Str.ofString "res") (a4 : z ≠ Str.ofString "add") (a5 : z ≠ Str.ofString "i") (a6 : z ≠ Str.ofString "n") (a7 : z ≠ Str.ofString "c") (a8 : z ≠ Str.ofString "j") (a9 : z ≠ Str.ofString "stuff") (a10 : z ≠ Str.ofString "chunks") (a11 : z ≠ Str.ofString "k") (a12 : z ≠ Str.ofString "chunk") : tm v0 v1 v2 v3 v4 v5 v6 v7 v8 v9 v10 v11 v12 z = none := by
  unfold tm
  simp only [a0, a1, a2, a3, a4, a5, a6, a7, a8, a9, a10, a11, a12, if_false]
/-- a frame by its list of names -/
def look : List (Str × Option Value) → Str → Option Value
  | [], _ => none
  | p :: r, z => if z = p.1 then p.2 else look r z
theorem look_eq {m : Str → Option Value} : ∀ (l : List (Str × Option Value)), (∀ p ∈ l, m p.1 = p.2) → ∀ z, ((∀ p ∈ l, z ≠ p.1) → m z = none) → m z = look l z
  | [], _, z, hr => hr fun _ h => nomatch h
  | p :: r, H, z, hr => by
    unfold look
    by_cases e : z = p.1
    · rw [if_pos e, e]
      exact H p (.head _)
    · rw [if_neg e]
      exact look_eq r (fun q hq => H q (.tail _ hq)) z fun h => hr fun q hq => by
        rcases List.mem_cons.mp hq with rfl | hq
        · exact e
        · exact h q hq
theorem fr_tm {g h : Heap} {L : Addr} {m : Str → Option Value} {v0 v1 v2 v3 v4 v5 v6 v7 v8 v9 v10 v11 v12 : Option Value} (F : Fr g L h m) (h0 : m (Str.ofString "pat") = v0) (h1 : m (Str.ofString "STAR") = v1) (h2 : m (Str.ofString "QUESTION_MARK") = v2) (h3 : m (Str.ofString "res") = v3) (h4 : m (Str.ofString "add") = v4) (h5 : m (Str.ofString "i") = v5) (h6 : m (Str.ofString "n") = v6) (h7 : m (Str.ofString "c") = v7) (h8 : m (Str.ofString "j") = v8) (h9 : m (Str.ofString "stuff") = v9) (h10 : m (Str.ofString "chunks") = v10) (h11 : m (Str.ofString "k") = v11) (h12 : m (Str.ofString "chunk") = v12)
    (hr : ∀ z, z ≠ Str.ofString "pat" → z ≠ Str.ofString "STAR" → z ≠ Str.ofString "QUESTION_MARK" → z ≠ Str.ofString "res" → z ≠ Str.ofString "add" → z ≠ Str.ofString "i" → z ≠ Str.ofString "n" → z ≠ Str.ofString "c" → z ≠ Str.ofString "j" → z ≠ Str.ofString "stuff" → z ≠ Str.ofString "chunks" → z ≠ Str.ofString "k" → z ≠ Str.ofString "chunk" → m z = none) : Fr g L h (tm v0 v1 v2 v3 v4 v5 v6 v7 v8 v9 v10 v11 v12) :=
  fr_to F fun z => look_eq [(Str.ofString "pat", v0), (Str.ofString "STAR", v1), (Str.ofString "QUESTION_MARK", v2), (Str.ofString "res", v3), (Str.ofString "add", v4), (Str.ofString "i", v5), (Str.ofString "n", v6), (Str.ofString "c", v7), (Str.ofString "j", v8), (Str.ofString "stuff", v9), (Str.ofString "chunks", v10), (Str.ofString "k", v11), (Str.ofString "chunk", v12)] (List.forall_mem_cons.mpr ⟨h0, List.forall_mem_cons.mpr ⟨h1, List.forall_mem_cons.mpr ⟨h2, List.forall_mem_cons.mpr ⟨h3, List.forall_mem_cons.mpr ⟨h4, List.forall_mem_cons.mpr ⟨h5, List.forall_mem_cons.mpr ⟨h6, List.forall_mem_cons.mpr ⟨h7, List.forall_mem_cons.mpr ⟨h8, List.forall_mem_cons.mpr ⟨h9, List.forall_mem_cons.mpr ⟨h10, List.forall_mem_cons.mpr ⟨h11, List.forall_mem_cons.mpr ⟨h12, List.forall_mem_nil _⟩⟩⟩⟩⟩⟩⟩⟩⟩⟩⟩⟩⟩) z fun h => hr z (h _ (.head _)) (h _ (.tail _ (.head _))) (h _ (.tail _ (.tail _ (.head _)))) (h _ (.tail _ (.tail _ (.tail _ (.head _))))) (h _ (.tail _ (.tail _ (.tail _ (.tail _ (.head _)))))) (h _ (.tail _ (.tail _ (.tail _ (.tail _ (.tail _ (.head _))))))) (h _ (.tail _ (.tail _ (.tail _ (.tail _ (.tail _ (.tail _ (.head _)))))))) (h _ (.tail _ (.tail _ (.tail _ (.tail _ (.tail _ (.tail _ (.tail _ (.head _))))))))) (h _ (.tail _ (.tail _ (.tail _ (.tail _ (.tail _ (.tail _ (.tail _ (.tail _ (.head _)))))))))) (h _ (.tail _ (.tail _ (.tail _ (.tail _ (.tail _ (.tail _ (.tail _ (.tail _ (.tail _ (.head _))))))))))) (h _ (.tail _ (.tail _ (.tail _ (.tail _ (.tail _ (.tail _ (.tail _ (.tail _ (.tail _ (.tail _ (.head _)))))))))))) (h _ (.tail _ (.tail _ (.tail _ (.tail _ (.tail _ (.tail _ (.tail _ (.tail _ (.tail _ (.tail _ (.tail _ (.head _))))))))))))) (h _ (.tail _ (.tail _ (.tail _ (.tail _ (.tail _ (.tail _ (.tail _ (.tail _ (.tail _ (.tail _ (.tail _ (.tail _ (.head _))))))))))))))
end Mine
namespace Mine
section
variable {prog : Program} {w : World} {A : Around} {E : Value → Shared → Prop} {s : Shared}
theorem lt_yes {a b : Int} {t u : Tok} {Q : Value → Shared → Prop} (hab : a < b) (h : Q (.bool true) s) : wpAny (model prog w) A (compareOp .Lt (.int a t) (.int b u)) Q E s :=
  lt_int (by rw [decide_eq_true hab]; exact h)
theorem lt_no {a b : Int} {t u : Tok} {Q : Value → Shared → Prop} (hab : ¬ a < b) (h : Q (.bool false) s) : wpAny (model prog w) A (compareOp .Lt (.int a t) (.int b u)) Q E s :=
  lt_int (by rw [decide_eq_false hab]; exact h)
theorem ge_no {a b : Int} {t u : Tok} {Q : Value → Shared → Prop} (hab : ¬ b ≤ a) (h : Q (.bool false) s) : wpAny (model prog w) A (compareOp .GtE (.int a t) (.int b u)) Q E s :=
  ge_int (by rw [decide_eq_false hab]; exact h)
end
end Mine
namespace Mine
/-- the statements that cut the bracket's text at '-' -/
def trCut : List Stmt := sElse (sAt trBr 1)
def trFor : Stmt := sAt trCut 5
theorem one_item (c : Nat) : Txt.item ⟨#[c]⟩ 0 = ⟨#[c]⟩ := by with_unfolding_all rfl
theorem one_last (c : Nat) : Txt.item ⟨#[c]⟩ (-1) = ⟨#[c]⟩ := by with_unfolding_all rfl
theorem one_front (c : Nat) : Txt.slice ⟨#[c]⟩ none (some (-1)) = ⟨#[]⟩ := by with_unfolding_all rfl
theorem one_back (c : Nat) : Txt.slice ⟨#[c]⟩ (some 1) none = ⟨#[]⟩ := by with_unfolding_all rfl
theorem lt_one {x y : Nat} : (((⟨#[x]⟩ : Str).cps.toList) < ((⟨#[y]⟩ : Str).cps.toList)) ↔ x < y := by
  show ([x] < [y]) ↔ x < y
  rw [List.cons_lt_cons_iff]
  constructor
  · rintro (h | ⟨_, h⟩)
    · exact h
    · exact absurd h (by simp)
  · exact .inl
section
variable {prog : Program} {w : World} {A : Around} {E : Value → Shared → Prop} {s : Shared}
theorem gt_yes {x y : Nat} {t u : Tok} {Q : Value → Shared → Prop} (hxy : x < y) (h : Q (.bool true) s) : wpAny (model prog w) A (compareOp .Gt (.str ⟨#[y]⟩ t) (.str ⟨#[x]⟩ u)) Q E s :=
  PySem.P.gt_str (by rw [decide_eq_true (lt_one.mpr hxy)]; exact h)
theorem gt_no {x y : Nat} {t u : Tok} {Q : Value → Shared → Prop} (hxy : ¬ x < y) (h : Q (.bool false) s) : wpAny (model prog w) A (compareOp .Gt (.str ⟨#[y]⟩ t) (.str ⟨#[x]⟩ u)) Q E s :=
  PySem.P.gt_str (by rw [decide_eq_false (fun q => hxy (lt_one.mp q))]; exact h)
end
end Mine
namespace Mine
/-- the table of _translate's codes: nothing, the generator expression's alone, the lambda's too -/
def tb1 (c1 : Addr) : Array Value := #[] ++ #[rawInt 71, rawInt 37, .ref c1]
def tb2 (c1 c2 : Addr) : Array Value := (#[] ++ #[rawInt 71, rawInt 37, .ref c1]) ++ #[rawInt 72, rawInt 39, .ref c2]
def Tb (ps : Array Value) : Prop := ps = #[] ∨ ∃ c1 c2, ps = tb2 c1 c2
def Tb' (ps : Array Value) : Prop := (∃ c1, ps = tb1 c1) ∨ ∃ c1 c2, ps = tb2 c1 c2
end Mine
namespace Mine
theorem three_ne {a b c : Nat} : (((⟨#[a, b, c]⟩ : Str).cps.toList) == (Str.ofString "!").cps.toList) = false := by
  rw [lit_bang]; simp
section
variable {prog : Program} {w : World} {A : Around} {E : Value → Shared → Prop} {s : Shared}
theorem truthy_three {a b c : Nat} {t : Tok} {Q : Bool → Shared → Prop} (h : Q true { s with toks := s.toks + 1 + 1 }) : wpAny (model prog w) A (truthy (.str ⟨#[a, b, c]⟩ t)) Q E s := PySem.P.truthy_str (by show ¬ ((3 : Nat) : Int) ≥ 2 ^ 63; decide) h
theorem truthy_nil {t : Tok} {Q : Bool → Shared → Prop} (h : Q false { s with toks := s.toks + 1 + 1 }) : wpAny (model prog w) A (truthy (.str ⟨#[]⟩ t)) Q E s := PySem.P.truthy_str (by show ¬ ((0 : Nat) : Int) ≥ 2 ^ 63; decide) h
end
end Mine
namespace Mine
theorem not_hat {y : Nat} (h0 : y ≠ 94) (h1 : y ≠ 91) : ([Str.ofString "^", Str.ofString "["].any fun x => x == (⟨#[y]⟩ : Str)) = false := by
  rw [lit_hat, lit_open]
  have a : ((⟨#[94]⟩ : Str) == (⟨#[y]⟩ : Str)) = false := beq_eq_false_iff_ne.mpr fun e => h0 (by injection e with e; injection e with e; injection e with e; exact e.symm)
  have b : ((⟨#[91]⟩ : Str) == (⟨#[y]⟩ : Str)) = false := beq_eq_false_iff_ne.mpr fun e => h1 (by injection e with e; injection e with e; injection e with e; exact e.symm)
  simp only [List.any_cons, List.any_nil, a, b, Bool.or_self]
end Mine
namespace Mine
/-- what a bracket's text becomes -/
def brText (x y : Nat) : Str := if x < y then ⟨#[40, 63, 33, 41]⟩ else ⟨#[91, y, 45, x, 93]⟩
theorem brText_yes {x y : Nat} (h : x < y) : brText x y = ⟨#[40, 63, 33, 41]⟩ := if_pos h
theorem brText_no {x y : Nat} (h : ¬ x < y) : brText x y = ⟨#[91, y, 45, x, 93]⟩ := if_neg h
end Mine
namespace Mine
theorem addr_lt {a b : Nat} (h : a < b) : @LT.lt Addr _ a b := h
end Mine
end
section
namespace Mine
theorem for_spec {w : World} {dp un : Nat} {fr : Option (List Env)} {gd : Option (List Code)} {p : Program} {loose : List Str} {mean : ExcName → Option Value} {mg mb : Str → Option Value} {s : Shared} {g : Heap} {L l q a : Addr}
    {t0 t1 : Tok} {m cnt x y : Nat} {its ps : Array Value} {v0 v1 v2 v3 v4 v5 v6 v7 v8 v9 v11 v12 : Option Value} {Q : Flow → Shared → Prop}
    (X : (hd.heap_39 w.params).In g) (T : Top p loose mean mg mb g) (hdp : dp + 10 < recursionLimit) (hun : un + 60 < cLine)
    (F : Fr g L s.heap (tm v0 v1 v2 v3 v4 v5 v6 v7 v8 v9 (some (.ref a)) v11 v12))
    (N : News g L s.heap [(a, listOf #[.str ⟨#[y]⟩ t0, .str ⟨#[x]⟩ t1] m), (q, bmObj l), (l, listOf its cnt), (64, tabObj ps)]) (hl : 64 < l ∧ l < q ∧ q < a)
    (hret1 : x < y → ∀ h' tk' t t' m', Fr g L h' (tm v0 v1 v2 v3 v4 v5 v6 v7 v8 v9 (some (.ref a)) (some (.int 1 t)) v12) → News g L h' [(a, listOf #[.str ⟨#[]⟩ t'] m'), (q, bmObj l), (l, listOf its cnt), (64, tabObj ps)] → Q .next { s with heap := h', toks := tk' })
    (hret2 : ¬ x < y → ∀ h' tk' t, Fr g L h' (tm v0 v1 v2 v3 v4 v5 v6 v7 v8 v9 (some (.ref a)) (some (.int 1 t)) v12) → News g L h' [(a, listOf #[.str ⟨#[y]⟩ t0, .str ⟨#[x]⟩ t1] m), (q, bmObj l), (l, listOf its cnt), (64, tabObj ps)] → Q .next { s with heap := h', toks := tk' }) :
    wpAny (model PySem.Challenge.rw_in0246_01.row.prog w) ((⟨none, dp, fr, gd, un⟩ : Around).deeper (envOf (Str.ofString "_translate") trScope L 69 (.ref 68))) (exec trFor (envOf (Str.ofString "_translate") trScope L 69 (.ref 68))) Q (fun _ _ => False) s := by
  obtain ⟨hl1, hl2, hl3⟩ := hl
  k_lt2 hl1
  k_lt2 hl2
  k_lt2 hl3
  revert X
  k_with_none
  k_fill
  (k_with "exec For Name Subscript cons nil" => (k_here; (rename Fr _ _ _ _ => lF'); (with_unfolding_all refine' For_invVF lF' ?k1 ?k2 ?_; (case k1 => exact rfl); (case k2 => exact rfl); k_whole)))
  (k_with "execs cons" => (first | (k_here; k_gentoks) | ((with_reducible refine Mine.execs_nx ?_); (try dsimp only))))
  (k_with "WhlPost" => dsimp only [Mine.Nx])
  (k_with "KswPost" => dsimp only [Mine.Nx])
  (k_with "InvPostN" => dsimp only [Mine.Nx])
  (k_with "UnrPost" => dsimp only [Mine.Nx])
  (k_with "storeName" => dsimp only)
  (k_with "subscriptTail" => ((with_reducible show wpAny _ _ (subscriptTail _ (Expr.Slice _ _ _ _) (Value.str _ _) (Value.ref _)) _ _ _); kxi_slice; intro _ _ _ _ _; (first | rw [Mine.one_front] | rw [Mine.one_back])))
  intro X
  conv in (exec trFor _) =>
    arg 1
    whnf
  conv in (occs := *) (envOf _ trScope _ _ _) =>
    all_goals (arg 2; whnf)
  (try k_fold)
  (k_with "compareOp Gt str str" => refine hold ?_)
  k_steps
  refine unhold ?_
  k_with_none
  (k_with "exec For Name Subscript cons nil" => (k_here; (rename Fr _ _ _ _ => lF'); (with_unfolding_all refine' For_invVF lF' ?k1 ?k2 ?_; (case k1 => exact rfl); (case k2 => exact rfl); k_whole)))
  (k_with "execs cons" => (first | (k_here; k_gentoks) | ((with_reducible refine Mine.execs_nx ?_); (try dsimp only))))
  (k_with "WhlPost" => dsimp only [Mine.Nx])
  (k_with "KswPost" => dsimp only [Mine.Nx])
  (k_with "InvPostN" => dsimp only [Mine.Nx])
  (k_with "UnrPost" => dsimp only [Mine.Nx])
  (k_with "storeName" => dsimp only)
  (k_with "subscriptTail" => ((with_reducible show wpAny _ _ (subscriptTail _ (Expr.Slice _ _ _ _) (Value.str _ _) (Value.ref _)) _ _ _); kxi_slice; intro _ _ _ _ _; (first | rw [Mine.one_front] | rw [Mine.one_back])))
  rw [one_last, one_item]
  by_cases hxy : x < y
  · refine gt_yes hxy ?_
    k_steps
    rename Fr _ _ _ _ => F'
    rename News _ _ _ _ => N'
    exact hret1 hxy _ _ _ _ _ (fr_tm F' rfl rfl rfl rfl rfl rfl rfl rfl rfl rfl rfl rfl rfl (by (intros; repeat (first | (apply Mine.tmn <;> assumption) | refine Mine.ifn (by assumption) ?_)))) N'
  · refine gt_no hxy ?_
    k_steps
    rename Fr _ _ _ _ => F'
    rename News _ _ _ _ => N'
    exact hret2 hxy _ _ _ (fr_tm F' rfl rfl rfl rfl rfl rfl rfl rfl rfl rfl rfl rfl rfl (by (intros; repeat (first | (apply Mine.tmn <;> assumption) | refine Mine.ifn (by assumption) ?_)))) N'
end Mine
end
section
namespace Mine
def trJoin : Stmt := sAt trCut 6
theorem join_spec {w : World} {dp un : Nat} {fr : Option (List Env)} {gd : Option (List Code)} {p : Program} {loose : List Str} {mean : ExcName → Option Value} {mg mb : Str → Option Value} {s : Shared} {g : Heap} {L l q a : Addr}
    {m cnt : Nat} {its ps vs : Array Value} {v0 v1 v2 v3 v4 v5 v6 v7 v8 v9 v11 v12 : Option Value} {f : Nat → Str} {Q : Flow → Shared → Prop}
    (X : (hd.heap_39 w.params).In g) (T : Top p loose mean mg mb g) (hdp : dp + 10 < recursionLimit) (hun : un + 60 < cLine) (C : CodeHd g 68 64)
    (F : Fr g L s.heap (tm v0 v1 v2 v3 v4 v5 v6 v7 v8 v9 (some (.ref a)) v11 v12))
    (N : News g L s.heap [(a, listOf vs m), (q, bmObj l), (l, listOf its cnt), (64, tabObj ps)]) (hl : 64 < l ∧ l < q ∧ q < a) (hbare : AllBare s.gens)
    (hps : Tb ps) (hvs : ∀ i v, vs[i]? = some v → ∃ u, v = Value.str (f i) u) (hno : ∀ i, i < vs.size → noOcc (f i) (Str.ofString "\\") = true ∧ noOcc (f i) (Str.ofString "-") = true)
    {out : Str} (hout : Txt.join (Str.ofString "-") ((List.range vs.size).map f) = out) (hsz : vs.size ≤ 100) (hok : JoinOk (Str.ofString "-") ((List.range vs.size).map f) = true)
    (hret : ∀ ps' h' g' tk' t, Tb' ps' → Fr g L h' (tm v0 v1 v2 v3 v4 v5 v6 v7 v8 (some (.str out t)) (some (.ref a)) v11 v12) →
      News g L h' [(a, listOf vs m), (q, bmObj l), (l, listOf its cnt), (64, tabObj ps')] → AllBare g' → Q .next { s with heap := h', gens := g', toks := tk' }) :
    wpAny (model PySem.Challenge.rw_in0246_01.row.prog w) ((⟨none, dp, fr, gd, un⟩ : Around).deeper (envOf (Str.ofString "_translate") trScope L 69 (.ref 68))) (exec trJoin (envOf (Str.ofString "_translate") trScope L 69 (.ref 68))) Q (fun _ _ => False) s := by
  subst hout
  obtain ⟨hl1, hl2, hl3⟩ := hl
  k_lt2 hl1
  k_lt2 hl2
  k_lt2 hl3
  revert X
  k_with_none
  k_fill
  (k_with "exec For Name Subscript cons nil" => (k_here; (rename Fr _ _ _ _ => lF'); (with_unfolding_all refine' For_invVF lF' ?k1 ?k2 ?_; (case k1 => exact rfl); (case k2 => exact rfl); k_whole)))
  (k_with "execs cons" => (first | (k_here; k_gentoks) | ((with_reducible refine Mine.execs_nx ?_); (try dsimp only))))
  (k_with "WhlPost" => dsimp only [Mine.Nx])
  (k_with "KswPost" => dsimp only [Mine.Nx])
  (k_with "InvPostN" => dsimp only [Mine.Nx])
  (k_with "UnrPost" => dsimp only [Mine.Nx])
  (k_with "storeName" => dsimp only)
  intro X
  conv in (exec trJoin _) =>
    arg 1
    whnf
  conv in (occs := *) (envOf _ trScope _ _ _) =>
    all_goals (arg 2; whnf)
  (try k_fold)
  (k_with "eval GeneratorExp" => refine hold ?_)
  k_steps
  refine unhold ?_
  k_with_none
  (k_with "exec For Name Subscript cons nil" => (k_here; (rename Fr _ _ _ _ => lF'); (with_unfolding_all refine' For_invVF lF' ?k1 ?k2 ?_; (case k1 => exact rfl); (case k2 => exact rfl); k_whole)))
  (k_with "execs cons" => (first | (k_here; k_gentoks) | ((with_reducible refine Mine.execs_nx ?_); (try dsimp only))))
  (k_with "WhlPost" => dsimp only [Mine.Nx])
  (k_with "KswPost" => dsimp only [Mine.Nx])
  (k_with "InvPostN" => dsimp only [Mine.Nx])
  (k_with "UnrPost" => dsimp only [Mine.Nx])
  (k_with "storeName" => dsimp only)
  rcases hps with rfl | ⟨c1, c2, rfl⟩
  · refine wpAny_mono (join_led (psOf := tb1) (cl := []) F N T (by k_updF) (.head _) C (gx_new rfl (C.keeps F.keep) (News.get N (.tail _ (.tail _ (.tail _ (.head _))))) ?ht ?hnf) ?hh ?hco ?hclos ?hcell ?h0 ?hx ?hkind ?hroom ?hglob ?h ?helt hsz hok hbare ?hQ ?hs) (fun v s1 h => Calls.spliced_nil h) (fun _ _ e => e)
    case ht => kn_triples
    case hnf => kn_among
    case hh => rfl
    case hco => rfl
    case hclos => rfl
    case hcell => decide
    case h0 => rfl
    case hx => rfl
    case hkind => rfl
    case hroom => (show dp + 1 < _; exact Mine.rm (j := 1) hdp rfl)
    case hglob => rfl
    case h => exact wpAny_Name (wpAny_loadName_local (by rfl) (by rfl) F.ns rfl ⟨rfl, rfl⟩) (by decide)
    case helt =>
      intro A' E' i v t C code m₂ hA hi hC hm
      obtain ⟨u, rfl⟩ := hvs i v hi
      have hn := hno i (by
        rcases Nat.lt_or_ge i vs.size with h | h
        · exact h
        · rw [Array.getElem?_eq_none h] at hi; cases hi)
      exact gx_elt (by rfl) (by rfl) (by decide) (by rfl) (by rfl) hC hm hn.1 hn.2 (by rfl)
    case hs => intro x; with_unfolding_all rfl
    case hQ =>
      intro c' h' g' tk' t' F' N' hb
      clear F N
      k_steps
      rename Fr _ _ _ _ => F'
      rename News _ _ _ _ => N'
      exact hret _ _ _ _ _ (.inl ⟨c', rfl⟩) (fr_tm F' rfl rfl rfl rfl rfl rfl rfl rfl rfl rfl rfl rfl rfl (by (intros; repeat (first | (apply Mine.tmn <;> assumption) | refine Mine.ifn (by assumption) ?_)))) N' hb
  · refine wpAny_mono (join_led (psOf := fun _ => tb2 c1 c2) (cl := []) F N T (by k_updF) (.head _) C (gx_hit (c₀ := c1) rfl (C.keeps F.keep) (News.get N (.tail _ (.tail _ (.tail _ (.head _))))) ?ht ?hnf) ?hh ?hco ?hclos ?hcell ?h0 ?hx ?hkind ?hroom ?hglob ?h ?helt hsz hok hbare ?hQ ?hs) (fun v s1 h => Calls.spliced_nil h) (fun _ _ e => e)
    case ht => kn_triples
    case hnf => rfl
    case hh => rfl
    case hco => rfl
    case hclos => rfl
    case hcell => decide
    case h0 => rfl
    case hx => rfl
    case hkind => rfl
    case hroom => (show dp + 1 < _; exact Mine.rm (j := 1) hdp rfl)
    case hglob => rfl
    case h => exact wpAny_Name (wpAny_loadName_local (by rfl) (by rfl) F.ns rfl ⟨rfl, rfl⟩) (by decide)
    case helt =>
      intro A' E' i v t C code m₂ hA hi hC hm
      obtain ⟨u, rfl⟩ := hvs i v hi
      have hn := hno i (by
        rcases Nat.lt_or_ge i vs.size with h | h
        · exact h
        · rw [Array.getElem?_eq_none h] at hi; cases hi)
      exact gx_elt (by rfl) (by rfl) (by decide) (by rfl) (by rfl) hC hm hn.1 hn.2 (by rfl)
    case hs => intro x; with_unfolding_all rfl
    case hQ =>
      intro c' h' g' tk' t' F' N' hb
      clear F N
      k_steps
      rename Fr _ _ _ _ => F'
      rename News _ _ _ _ => N'
      exact hret _ _ _ _ _ (.inr ⟨c1, c2, rfl⟩) (fr_tm F' rfl rfl rfl rfl rfl rfl rfl rfl rfl rfl rfl rfl rfl (by (intros; repeat (first | (apply Mine.tmn <;> assumption) | refine Mine.ifn (by assumption) ?_)))) N' hb
end Mine
end
section
namespace Mine
def trSub : Stmt := sAt trBr 2
theorem sub_spec {w : World} {dp un : Nat} {fr : Option (List Env)} {gd : Option (List Code)} {p : Program} {loose : List Str} {mean : ExcName → Option Value} {mg mb : Str → Option Value} {s : Shared} {g : Heap} {L l q : Addr} {x : Str} {tx : Tok}
    {cnt : Nat} {its ps : Array Value} {v0 v1 v2 v3 v4 v5 v6 v7 v8 v10 v11 v12 : Option Value} {Q : Flow → Shared → Prop}
    (X : (hd.heap_39 w.params).In g) (T : Top p loose mean mg mb g) (hdp : dp + 10 < recursionLimit) (hun : un + 60 < cLine) (C : CodeHd g 68 64)
    (F : Fr g L s.heap (tm v0 v1 v2 v3 v4 v5 v6 v7 v8 (some (.str x tx)) v10 v11 v12))
    (N : News g L s.heap [(q, bmObj l), (l, listOf its cnt), (64, tabObj ps)]) (hl : 64 < l ∧ l < q)
    (hps : Tb' ps) (hno : failsP 200 (Sre.forSearch sreCode x.cps 1 0 x.cps.size false) = true) (hsz : x.cps.size ≤ 100)
    (hret : ∀ ps' h' tk' t, Tb ps' → Fr g L h' (tm v0 v1 v2 v3 v4 v5 v6 v7 v8 (some (.str x t)) v10 v11 v12) →
      News g L h' [(q, bmObj l), (l, listOf its cnt), (64, tabObj ps')] → Q .next { s with heap := h', toks := tk' }) :
    wpAny (model PySem.Challenge.rw_in0246_01.row.prog w) ((⟨none, dp, fr, gd, un⟩ : Around).deeper (envOf (Str.ofString "_translate") trScope L 69 (.ref 68))) (exec trSub (envOf (Str.ofString "_translate") trScope L 69 (.ref 68))) Q (fun _ _ => False) s := by
  obtain ⟨hl1, hl2⟩ := hl
  k_lt2 hl1
  k_lt2 hl2
  revert X
  k_with_none
  k_fill
  (k_with "exec For Name Subscript cons nil" => (k_here; (rename Fr _ _ _ _ => lF'); (with_unfolding_all refine' For_invVF lF' ?k1 ?k2 ?_; (case k1 => exact rfl); (case k2 => exact rfl); k_whole)))
  (k_with "execs cons" => (first | (k_here; k_gentoks) | ((with_reducible refine Mine.execs_nx ?_); (try dsimp only))))
  (k_with "WhlPost" => dsimp only [Mine.Nx])
  (k_with "KswPost" => dsimp only [Mine.Nx])
  (k_with "InvPostN" => dsimp only [Mine.Nx])
  (k_with "UnrPost" => dsimp only [Mine.Nx])
  (k_with "storeName" => dsimp only)
  intro X
  conv in (exec trSub _) =>
    arg 1
    whnf
  conv in (occs := *) (envOf _ trScope _ _ _) =>
    all_goals (arg 2; whnf)
  (try k_fold)
  (k_with "getMethod ref" => refine hold ?_)
  k_steps
  refine unhold ?_
  k_with_none
  (k_with "exec For Name Subscript cons nil" => (k_here; (rename Fr _ _ _ _ => lF'); (with_unfolding_all refine' For_invVF lF' ?k1 ?k2 ?_; (case k1 => exact rfl); (case k2 => exact rfl); k_whole)))
  (k_with "execs cons" => (first | (k_here; k_gentoks) | ((with_reducible refine Mine.execs_nx ?_); (try dsimp only))))
  (k_with "WhlPost" => dsimp only [Mine.Nx])
  (k_with "KswPost" => dsimp only [Mine.Nx])
  (k_with "InvPostN" => dsimp only [Mine.Nx])
  (k_with "UnrPost" => dsimp only [Mine.Nx])
  (k_with "storeName" => dsimp only)
  refine Mine.sub_method (F.keep 43 _ (X 43 _ (by with_unfolding_all rfl))) ?_
  rcases hps with ⟨c1, rfl⟩ | ⟨c1, c2, rfl⟩
  · k_steps
    rename Fr _ _ _ _ => F'
    rename News _ _ _ _ => N'
    refine Mine.sub_none (P := 43) (C := 42) (F'.keep 43 _ (X 43 _ (by with_unfolding_all rfl))) (F'.keep 42 _ (X 42 _ (by with_unfolding_all rfl))) ?hcode (News.get N' (.head _)) rfl hno hsz ?_
    case hcode => decide +kernel
    intro t' h' tk hk
    have F9 := fr_keep F' hk
    have N9 := news_keep N' hk
    clear F' N'
    k_steps
    rename Fr _ _ _ _ => F'
    rename News _ _ _ _ => N'
    exact hret _ _ _ _ (.inr ⟨c1, _, rfl⟩) (fr_tm F' rfl rfl rfl rfl rfl rfl rfl rfl rfl rfl rfl rfl rfl (by (intros; repeat (first | (apply Mine.tmn <;> assumption) | refine Mine.ifn (by assumption) ?_)))) (fun z hz => N' z (.tail _ (.tail _ hz)))
  · k_steps
    rename Fr _ _ _ _ => F'
    rename News _ _ _ _ => N'
    refine Mine.sub_none (P := 43) (C := 42) (F'.keep 43 _ (X 43 _ (by with_unfolding_all rfl))) (F'.keep 42 _ (X 42 _ (by with_unfolding_all rfl))) ?hcode (News.get N' (.head _)) rfl hno hsz ?_
    case hcode => decide +kernel
    intro t' h' tk hk
    have F9 := fr_keep F' hk
    have N9 := news_keep N' hk
    clear F' N'
    k_steps
    rename Fr _ _ _ _ => F'
    rename News _ _ _ _ => N'
    exact hret _ _ _ _ (.inr ⟨c1, c2, rfl⟩) (fr_tm F' rfl rfl rfl rfl rfl rfl rfl rfl rfl rfl rfl rfl rfl (by (intros; repeat (first | (apply Mine.tmn <;> assumption) | refine Mine.ifn (by assumption) ?_)))) (fun z hz => N' z (.tail _ hz))
end Mine
end
section
namespace Mine
theorem letter_turn {w : World} {dp un : Nat} {fr : Option (List Env)} {gd : Option (List Code)} {p : Program} {loose : List Str} {mean : ExcName → Option Value} {mg mb : Str → Option Value} {s : Shared} {g : Heap} {L l q : Addr}
    {P : Str} {tp ti tn : Tok} {k : Int} {n ch cnt : Nat} {rest : List Nat} {its ps : Array Value} {v1 v2 v7 v8 v9 v10 v11 v12 : Option Value} {Q : Flow → Shared → Prop}
    (X : (hd.heap_39 w.params).In g) (T : Top p loose mean mg mb g) (hdp : dp + 10 < recursionLimit) (hun : un + 60 < cLine)
    (F : Fr g L s.heap (tm (some (.str P tp)) v1 v2 (some (.ref l)) (some (.ref q)) (some (.int k ti)) (some (.int n tn)) v7 v8 v9 v10 v11 v12))
    (N : News g L s.heap [(q, bmObj l), (l, listOf its cnt), (64, tabObj ps)]) (hl : 64 < l ∧ l < q)
    (hc : P.cps.toList.drop k.toNat = ch :: rest) (hk0 : 0 ≤ k) (hk1 : k < n) (hP : P.cps.size = n) (hn : n ≤ 100) (hc0 : 66 ≤ ch) (hc1 : ch ≤ 76) (hits : its.size ≤ 100)
    (hret : ∀ h' tk' t t2 t3, Fr g L h' (tm (some (.str P tp)) v1 v2 (some (.ref l)) (some (.ref q)) (some (.int (k + 1) t2)) (some (.int n tn)) (some (.str ⟨#[ch]⟩ t3)) v8 v9 v10 v11 v12) →
      News g L h' [(q, bmObj l), (l, listOf (its.push (.str ⟨#[ch]⟩ t)) (cnt + 1)), (64, tabObj ps)] → Q .next { s with heap := h', toks := tk' }) :
    wpAny (model PySem.Challenge.rw_in0246_01.row.prog w) ((⟨none, dp, fr, gd, un⟩ : Around).deeper (envOf (Str.ofString "_translate") trScope L 69 (.ref 68))) (execs trLoop (envOf (Str.ofString "_translate") trScope L 69 (.ref 68))) Q (fun _ _ => False) s := by
  obtain ⟨hl1, hl2⟩ := hl
  k_lt2 hl1
  k_lt2 hl2
  revert X
  k_with_none
  k_fill
  (k_with "exec For Name Subscript cons nil" => (k_here; (rename Fr _ _ _ _ => lF'); (with_unfolding_all refine' For_invVF lF' ?k1 ?k2 ?_; (case k1 => exact rfl); (case k2 => exact rfl); k_whole)))
  (k_with "execs cons" => (first | (k_here; k_gentoks) | ((with_reducible refine Mine.execs_nx ?_); (try dsimp only))))
  (k_with "WhlPost" => dsimp only [Mine.Nx])
  (k_with "KswPost" => dsimp only [Mine.Nx])
  (k_with "InvPostN" => dsimp only [Mine.Nx])
  (k_with "UnrPost" => dsimp only [Mine.Nx])
  (k_with "storeName" => dsimp only)
  (k_with "getAttr ref" => (k_here; k_dflt (refine' Mine.bm_make ?k1 ?k2 ?k3 ?_; (case k1 => k_asm); (case k2 => k_asm); (case k3 => k_mem); k_whole); intro q' h' F' N' l1; (try k_lt l1); (try k_sweep)))
  (k_with "callWith ref" => (k_here; k_dflt (refine' Mine.bm_with ?k1 ?k2 ?_; (case k1 => k_asm); (case k2 => k_mem); k_whole)))
  (k_with "And" => ((with_reducible show Mine.BmAt _ _ _ ∧ _); k_dflt (refine ⟨News.get (by k_asm) (by k_mem), ?_⟩); (try dsimp only [List.nil_append, List.cons_append])))
  (k_with "call ref" => (k_here; (with_reducible show wpAny _ _ (call (Value.ref _) [_]) _ _ _); k_dflt (refine' Mine.bm_append ?k1 ?k2 ?k3 ?k4 ?_ ?z; (case k1 => k_asm); (case k2 => k_asm); (case k3 => k_mem); (case k4 => k_upd); (case z => first | size_fits | (rw [PySem.sizeLine_eq]; (first | lia | omega))); k_whole); intro h' F' N'; (try k_sweep)))
  (k_with "compareOp Eq str str" => (first | (refine' Mine.eq_lit (b := true) (by first | exact Mine.one_eq Mine.lit_star rfl | exact Mine.one_eq Mine.lit_quest rfl | exact Mine.one_eq Mine.lit_open rfl | exact Mine.one_eq Mine.lit_bang rfl | exact Mine.one_eq Mine.lit_close rfl) ?_; k_whole) | (refine' Mine.eq_lit (b := false) (by first | exact Mine.one_ne Mine.lit_star (by (first | lia | omega)) | exact Mine.one_ne Mine.lit_quest (by (first | lia | omega)) | exact Mine.one_ne Mine.lit_open (by (first | lia | omega)) | exact Mine.one_ne Mine.lit_bang (by (first | lia | omega)) | exact Mine.one_ne Mine.lit_close (by (first | lia | omega))) ?_; k_whole)))
  (k_with "call ref" => ((with_reducible show wpAny _ _ (call (Value.ref 62) [Value.str _ _]) _ _ _); (rename Fr _ _ _ _ => lF'); (rename News _ _ _ _ => lN'); (with_unfolding_all refine' Mine.escape_spec (Frag.In.keeps (by assumption) lF'.keep) (Top.keeps (by assumption) lF'.keep) ?d ?u (by (first | lia | omega)) (by (first | lia | omega)) ?_); (case d => (dsimp only; (first | lia | omega))); (case u => (dsimp only; (first | lia | omega))); intro t9 h9 tk9 hk9; have F9 := Mine.fr_keep lF' hk9; have N9 := Mine.news_keep lN' hk9; clear lF' lN' hk9))
  (k_with "subscriptTail Name Name str int" => (k_dflt (refine' Mine.item_pos (by assumption) (by assumption) (by assumption) (by assumption) (by assumption) ?_; k_whole)))
  intro X
  conv in (execs trLoop _) =>
    arg 1
    whnf
  conv in (occs := *) (envOf _ trScope _ _ _) =>
    all_goals (arg 2; whnf)
  (try k_fold)
  k_steps
  rename Fr _ _ _ _ => F'
  rename News _ _ _ _ => N'
  exact hret _ _ _ _ _ (fr_tm F' rfl rfl rfl rfl rfl rfl rfl rfl rfl rfl rfl rfl rfl (by (intros; repeat (first | (apply Mine.tmn <;> assumption) | refine Mine.ifn (by assumption) ?_)))) N'
end Mine
end
section
namespace Mine
def trAdd : Stmt := sAt trBr 4
theorem add_spec {w : World} {dp un : Nat} {fr : Option (List Env)} {gd : Option (List Code)} {p : Program} {loose : List Str} {mean : ExcName → Option Value} {mg mb : Str → Option Value} {s : Shared} {g : Heap} {L l q : Addr} {tx : Tok}
    {cnt x y : Nat} {its ps : Array Value} {v0 v1 v2 v3 v5 v6 v7 v8 v10 v11 v12 : Option Value} {Q : Flow → Shared → Prop}
    (X : (hd.heap_39 w.params).In g) (T : Top p loose mean mg mb g) (hdp : dp + 10 < recursionLimit) (hun : un + 60 < cLine)
    (F : Fr g L s.heap (tm v0 v1 v2 v3 (some (.ref q)) v5 v6 v7 v8 (some (.str ⟨#[y, 45, x]⟩ tx)) v10 v11 v12))
    (N : News g L s.heap [(q, bmObj l), (l, listOf its cnt), (64, tabObj ps)]) (hl : 64 < l ∧ l < q) (hits : its.size ≤ 100) (hx0 : 66 ≤ x) (hx1 : x ≤ 76) (hy0 : 66 ≤ y) (hy1 : y ≤ 76)
    (hret : ∀ h' tk' t, Fr g L h' (tm v0 v1 v2 v3 (some (.ref q)) v5 v6 v7 v8 (some (.str ⟨#[y, 45, x]⟩ tx)) v10 v11 v12) →
      News g L h' [(q, bmObj l), (l, listOf (its.push (.str ⟨#[91, y, 45, x, 93]⟩ t)) (cnt + 1)), (64, tabObj ps)] → Q .next { s with heap := h', toks := tk' }) :
    wpAny (model PySem.Challenge.rw_in0246_01.row.prog w) ((⟨none, dp, fr, gd, un⟩ : Around).deeper (envOf (Str.ofString "_translate") trScope L 69 (.ref 68))) (exec trAdd (envOf (Str.ofString "_translate") trScope L 69 (.ref 68))) Q (fun _ _ => False) s := by
  obtain ⟨hl1, hl2⟩ := hl
  k_lt2 hl1
  k_lt2 hl2
  revert X
  k_with_none
  k_fill
  (k_with "exec For Name Subscript cons nil" => (k_here; (rename Fr _ _ _ _ => lF'); (with_unfolding_all refine' For_invVF lF' ?k1 ?k2 ?_; (case k1 => exact rfl); (case k2 => exact rfl); k_whole)))
  (k_with "execs cons" => (first | (k_here; k_gentoks) | ((with_reducible refine Mine.execs_nx ?_); (try dsimp only))))
  (k_with "WhlPost" => dsimp only [Mine.Nx])
  (k_with "KswPost" => dsimp only [Mine.Nx])
  (k_with "InvPostN" => dsimp only [Mine.Nx])
  (k_with "UnrPost" => dsimp only [Mine.Nx])
  (k_with "storeName" => dsimp only)
  (k_with "getAttr ref" => (k_here; k_dflt (refine' Mine.bm_make ?k1 ?k2 ?k3 ?_; (case k1 => k_asm); (case k2 => k_asm); (case k3 => k_mem); k_whole); intro q' h' F' N' l1; (try k_lt l1); (try k_sweep)))
  (k_with "callWith ref" => (k_here; k_dflt (refine' Mine.bm_with ?k1 ?k2 ?_; (case k1 => k_asm); (case k2 => k_mem); k_whole)))
  (k_with "And" => ((with_reducible show Mine.BmAt _ _ _ ∧ _); k_dflt (refine ⟨News.get (by k_asm) (by k_mem), ?_⟩); (try dsimp only [List.nil_append, List.cons_append])))
  (k_with "call ref" => (k_here; (with_reducible show wpAny _ _ (call (Value.ref _) [_]) _ _ _); k_dflt (refine' Mine.bm_append ?k1 ?k2 ?k3 ?k4 ?_ ?z; (case k1 => k_asm); (case k2 => k_asm); (case k3 => k_mem); (case k4 => k_upd); (case z => first | size_fits | (rw [PySem.sizeLine_eq]; (first | lia | omega))); k_whole); intro h' F' N'; (try k_sweep)))
  (k_with "compareOp Eq str str" => (first | (refine' Mine.eq_lit (b := true) (by first | exact Mine.one_eq Mine.lit_star rfl | exact Mine.one_eq Mine.lit_quest rfl | exact Mine.one_eq Mine.lit_open rfl | exact Mine.one_eq Mine.lit_bang rfl | exact Mine.one_eq Mine.lit_close rfl) ?_; k_whole) | (refine' Mine.eq_lit (b := false) (by first | exact Mine.one_ne Mine.lit_star (by (first | lia | omega)) | exact Mine.one_ne Mine.lit_quest (by (first | lia | omega)) | exact Mine.one_ne Mine.lit_open (by (first | lia | omega)) | exact Mine.one_ne Mine.lit_bang (by (first | lia | omega)) | exact Mine.one_ne Mine.lit_close (by (first | lia | omega))) ?_; k_whole)))
  (k_with "call ref" => ((with_reducible show wpAny _ _ (call (Value.ref 62) [Value.str _ _]) _ _ _); (rename Fr _ _ _ _ => lF'); (rename News _ _ _ _ => lN'); (with_unfolding_all refine' Mine.escape_spec (Frag.In.keeps (by assumption) lF'.keep) (Top.keeps (by assumption) lF'.keep) ?d ?u (by (first | lia | omega)) (by (first | lia | omega)) ?_); (case d => (dsimp only; (first | lia | omega))); (case u => (dsimp only; (first | lia | omega))); intro t9 h9 tk9 hk9; have F9 := Mine.fr_keep lF' hk9; have N9 := Mine.news_keep lN' hk9; clear lF' lN' hk9))
  (k_with "subscriptTail Name Name str int" => (k_dflt (refine' Mine.item_pos (by assumption) (by assumption) (by assumption) (by assumption) (by assumption) ?_; k_whole)))
  (k_with "subscriptTail Name Constant str int" => (k_dflt (refine' Mine.item_pos (n := 3) (by rfl) (by decide) (by decide) rfl (by decide) ?_; k_whole)))
  (k_with "truthy str" => (k_dflt (refine Mine.truthy_three ?_)))
  (k_with "compareOp Eq str str" => (k_dflt (refine' Mine.eq_lit Mine.three_ne ?_; k_whole)))
  intro X
  conv in (exec trAdd _) =>
    arg 1
    whnf
  conv in (occs := *) (envOf _ trScope _ _ _) =>
    all_goals (arg 2; whnf)
  (try k_fold)
  k_steps
  · rename (_ = true) => hc
    exact absurd hc (by rw [not_hat (by (first | lia | omega)) (by (first | lia | omega))]; decide)
  · rename Fr _ _ _ _ => F'
    rename News _ _ _ _ => N'
    exact hret _ _ _ (fr_tm F' rfl rfl rfl rfl rfl rfl rfl rfl rfl rfl rfl rfl rfl (by (intros; repeat (first | (apply Mine.tmn <;> assumption) | refine Mine.ifn (by assumption) ?_)))) (fun z hz => N' z (.tail _ hz))
end Mine
end
section
namespace Mine
theorem add0_spec {w : World} {dp un : Nat} {fr : Option (List Env)} {gd : Option (List Code)} {p : Program} {loose : List Str} {mean : ExcName → Option Value} {mg mb : Str → Option Value} {s : Shared} {g : Heap} {L l q : Addr} {tx : Tok}
    {cnt : Nat} {its ps : Array Value} {v0 v1 v2 v3 v5 v6 v7 v8 v10 v11 v12 : Option Value} {Q : Flow → Shared → Prop}
    (X : (hd.heap_39 w.params).In g) (T : Top p loose mean mg mb g) (hdp : dp + 10 < recursionLimit) (hun : un + 60 < cLine)
    (F : Fr g L s.heap (tm v0 v1 v2 v3 (some (.ref q)) v5 v6 v7 v8 (some (.str ⟨#[]⟩ tx)) v10 v11 v12))
    (N : News g L s.heap [(q, bmObj l), (l, listOf its cnt), (64, tabObj ps)]) (hl : 64 < l ∧ l < q) (hits : its.size ≤ 100)
    (hret : ∀ h' tk' t, Fr g L h' (tm v0 v1 v2 v3 (some (.ref q)) v5 v6 v7 v8 (some (.str ⟨#[]⟩ tx)) v10 v11 v12) →
      News g L h' [(q, bmObj l), (l, listOf (its.push (.str ⟨#[40, 63, 33, 41]⟩ t)) (cnt + 1)), (64, tabObj ps)] → Q .next { s with heap := h', toks := tk' }) :
    wpAny (model PySem.Challenge.rw_in0246_01.row.prog w) ((⟨none, dp, fr, gd, un⟩ : Around).deeper (envOf (Str.ofString "_translate") trScope L 69 (.ref 68))) (exec trAdd (envOf (Str.ofString "_translate") trScope L 69 (.ref 68))) Q (fun _ _ => False) s := by
  obtain ⟨hl1, hl2⟩ := hl
  k_lt2 hl1
  k_lt2 hl2
  revert X
  k_with_none
  k_fill
  (k_with "exec For Name Subscript cons nil" => (k_here; (rename Fr _ _ _ _ => lF'); (with_unfolding_all refine' For_invVF lF' ?k1 ?k2 ?_; (case k1 => exact rfl); (case k2 => exact rfl); k_whole)))
  (k_with "execs cons" => (first | (k_here; k_gentoks) | ((with_reducible refine Mine.execs_nx ?_); (try dsimp only))))
  (k_with "WhlPost" => dsimp only [Mine.Nx])
  (k_with "KswPost" => dsimp only [Mine.Nx])
  (k_with "InvPostN" => dsimp only [Mine.Nx])
  (k_with "UnrPost" => dsimp only [Mine.Nx])
  (k_with "storeName" => dsimp only)
  (k_with "getAttr ref" => (k_here; k_dflt (refine' Mine.bm_make ?k1 ?k2 ?k3 ?_; (case k1 => k_asm); (case k2 => k_asm); (case k3 => k_mem); k_whole); intro q' h' F' N' l1; (try k_lt l1); (try k_sweep)))
  (k_with "callWith ref" => (k_here; k_dflt (refine' Mine.bm_with ?k1 ?k2 ?_; (case k1 => k_asm); (case k2 => k_mem); k_whole)))
  (k_with "And" => ((with_reducible show Mine.BmAt _ _ _ ∧ _); k_dflt (refine ⟨News.get (by k_asm) (by k_mem), ?_⟩); (try dsimp only [List.nil_append, List.cons_append])))
  (k_with "call ref" => (k_here; (with_reducible show wpAny _ _ (call (Value.ref _) [_]) _ _ _); k_dflt (refine' Mine.bm_append ?k1 ?k2 ?k3 ?k4 ?_ ?z; (case k1 => k_asm); (case k2 => k_asm); (case k3 => k_mem); (case k4 => k_upd); (case z => first | size_fits | (rw [PySem.sizeLine_eq]; (first | lia | omega))); k_whole); intro h' F' N'; (try k_sweep)))
  (k_with "compareOp Eq str str" => (first | (refine' Mine.eq_lit (b := true) (by first | exact Mine.one_eq Mine.lit_star rfl | exact Mine.one_eq Mine.lit_quest rfl | exact Mine.one_eq Mine.lit_open rfl | exact Mine.one_eq Mine.lit_bang rfl | exact Mine.one_eq Mine.lit_close rfl) ?_; k_whole) | (refine' Mine.eq_lit (b := false) (by first | exact Mine.one_ne Mine.lit_star (by (first | lia | omega)) | exact Mine.one_ne Mine.lit_quest (by (first | lia | omega)) | exact Mine.one_ne Mine.lit_open (by (first | lia | omega)) | exact Mine.one_ne Mine.lit_bang (by (first | lia | omega)) | exact Mine.one_ne Mine.lit_close (by (first | lia | omega))) ?_; k_whole)))
  (k_with "call ref" => ((with_reducible show wpAny _ _ (call (Value.ref 62) [Value.str _ _]) _ _ _); (rename Fr _ _ _ _ => lF'); (rename News _ _ _ _ => lN'); (with_unfolding_all refine' Mine.escape_spec (Frag.In.keeps (by assumption) lF'.keep) (Top.keeps (by assumption) lF'.keep) ?d ?u (by (first | lia | omega)) (by (first | lia | omega)) ?_); (case d => (dsimp only; (first | lia | omega))); (case u => (dsimp only; (first | lia | omega))); intro t9 h9 tk9 hk9; have F9 := Mine.fr_keep lF' hk9; have N9 := Mine.news_keep lN' hk9; clear lF' lN' hk9))
  (k_with "subscriptTail Name Name str int" => (k_dflt (refine' Mine.item_pos (by assumption) (by assumption) (by assumption) (by assumption) (by assumption) ?_; k_whole)))
  (k_with "subscriptTail Name Constant str int" => (k_dflt (refine' Mine.item_pos (n := 3) (by rfl) (by decide) (by decide) rfl (by decide) ?_; k_whole)))
  (k_with "compareOp Eq str str" => (k_dflt (refine' Mine.eq_lit Mine.three_ne ?_; k_whole)))
  intro X
  conv in (exec trAdd _) =>
    arg 1
    whnf
  conv in (occs := *) (envOf _ trScope _ _ _) =>
    all_goals (arg 2; whnf)
  (try k_fold)
  k_with_none
  (k_with "exec For Name Subscript cons nil" => (k_here; (rename Fr _ _ _ _ => lF'); (with_unfolding_all refine' For_invVF lF' ?k1 ?k2 ?_; (case k1 => exact rfl); (case k2 => exact rfl); k_whole)))
  (k_with "execs cons" => (first | (k_here; k_gentoks) | ((with_reducible refine Mine.execs_nx ?_); (try dsimp only))))
  (k_with "WhlPost" => dsimp only [Mine.Nx])
  (k_with "KswPost" => dsimp only [Mine.Nx])
  (k_with "InvPostN" => dsimp only [Mine.Nx])
  (k_with "UnrPost" => dsimp only [Mine.Nx])
  (k_with "storeName" => dsimp only)
  (k_with "getAttr ref" => (k_here; k_dflt (refine' Mine.bm_make ?k1 ?k2 ?k3 ?_; (case k1 => k_asm); (case k2 => k_asm); (case k3 => k_mem); k_whole); intro q' h' F' N' l1; (try k_lt l1); (try k_sweep)))
  (k_with "callWith ref" => (k_here; k_dflt (refine' Mine.bm_with ?k1 ?k2 ?_; (case k1 => k_asm); (case k2 => k_mem); k_whole)))
  (k_with "And" => ((with_reducible show Mine.BmAt _ _ _ ∧ _); k_dflt (refine ⟨News.get (by k_asm) (by k_mem), ?_⟩); (try dsimp only [List.nil_append, List.cons_append])))
  (k_with "call ref" => (k_here; (with_reducible show wpAny _ _ (call (Value.ref _) [_]) _ _ _); k_dflt (refine' Mine.bm_append ?k1 ?k2 ?k3 ?k4 ?_ ?z; (case k1 => k_asm); (case k2 => k_asm); (case k3 => k_mem); (case k4 => k_upd); (case z => first | size_fits | (rw [PySem.sizeLine_eq]; (first | lia | omega))); k_whole); intro h' F' N'; (try k_sweep)))
  (k_with "compareOp Eq str str" => (first | (refine' Mine.eq_lit (b := true) (by first | exact Mine.one_eq Mine.lit_star rfl | exact Mine.one_eq Mine.lit_quest rfl | exact Mine.one_eq Mine.lit_open rfl | exact Mine.one_eq Mine.lit_bang rfl | exact Mine.one_eq Mine.lit_close rfl) ?_; k_whole) | (refine' Mine.eq_lit (b := false) (by first | exact Mine.one_ne Mine.lit_star (by (first | lia | omega)) | exact Mine.one_ne Mine.lit_quest (by (first | lia | omega)) | exact Mine.one_ne Mine.lit_open (by (first | lia | omega)) | exact Mine.one_ne Mine.lit_bang (by (first | lia | omega)) | exact Mine.one_ne Mine.lit_close (by (first | lia | omega))) ?_; k_whole)))
  (k_with "call ref" => ((with_reducible show wpAny _ _ (call (Value.ref 62) [Value.str _ _]) _ _ _); (rename Fr _ _ _ _ => lF'); (rename News _ _ _ _ => lN'); (with_unfolding_all refine' Mine.escape_spec (Frag.In.keeps (by assumption) lF'.keep) (Top.keeps (by assumption) lF'.keep) ?d ?u (by (first | lia | omega)) (by (first | lia | omega)) ?_); (case d => (dsimp only; (first | lia | omega))); (case u => (dsimp only; (first | lia | omega))); intro t9 h9 tk9 hk9; have F9 := Mine.fr_keep lF' hk9; have N9 := Mine.news_keep lN' hk9; clear lF' lN' hk9))
  (k_with "subscriptTail Name Name str int" => (k_dflt (refine' Mine.item_pos (by assumption) (by assumption) (by assumption) (by assumption) (by assumption) ?_; k_whole)))
  (k_with "subscriptTail Name Constant str int" => (k_dflt (refine' Mine.item_pos (n := 3) (by rfl) (by decide) (by decide) rfl (by decide) ?_; k_whole)))
  (k_with "compareOp Eq str str" => (k_dflt (refine' Mine.eq_lit Mine.three_ne ?_; k_whole)))
  k_steps
  rename Fr _ _ _ _ => F'
  rename News _ _ _ _ => N'
  rw [show Str.ofString "(?!)" = ⟨#[40, 63, 33, 41]⟩ by decide +kernel] at N'
  exact hret _ _ _ (fr_tm F' rfl rfl rfl rfl rfl rfl rfl rfl rfl rfl rfl rfl rfl (by (intros; repeat (first | (apply Mine.tmn <;> assumption) | refine Mine.ifn (by assumption) ?_)))) N'
end Mine
end
section
namespace Mine
theorem noocc_back {y : Nat} (h0 : 66 ≤ y) (h1 : y ≤ 76) : noOcc ⟨#[y]⟩ (Str.ofString "\\") = true := letters2 (P := fun y _ => noOcc ⟨#[y]⟩ (Str.ofString "\\") = true) (by decide +kernel) h0 h1 h0 h1
theorem noocc_dash {y : Nat} (h0 : 66 ≤ y) (h1 : y ≤ 76) : noOcc ⟨#[y]⟩ (Str.ofString "-") = true := letters2 (P := fun y _ => noOcc ⟨#[y]⟩ (Str.ofString "-") = true) (by decide +kernel) h0 h1 h0 h1
theorem fails_three {x y : Nat} (hx0 : 66 ≤ x) (hx1 : x ≤ 76) (hy0 : 66 ≤ y) (hy1 : y ≤ 76) : failsP 200 (Sre.forSearch sreCode #[y, 45, x] 1 0 3 false) = true :=
  letters2 (P := fun x y => failsP 200 (Sre.forSearch sreCode #[y, 45, x] 1 0 3 false) = true) (fun a b => sre_three a b) hx0 hx1 hy0 hy1
theorem join_two (y x : Nat) : Txt.join (Str.ofString "-") ((List.range 2).map fun i => if i = 0 then (⟨#[y]⟩ : Str) else ⟨#[x]⟩) = ⟨#[y, 45, x]⟩ := by with_unfolding_all rfl
theorem join_nil : Txt.join (Str.ofString "-") ((List.range 1).map fun _ => (⟨#[]⟩ : Str)) = ⟨#[]⟩ := by with_unfolding_all rfl
theorem joinok_two (y x : Nat) : JoinOk (Str.ofString "-") ((List.range 2).map fun i => if i = 0 then (⟨#[y]⟩ : Str) else ⟨#[x]⟩) = true := by with_unfolding_all rfl
theorem joinok_nil : JoinOk (Str.ofString "-") ((List.range 1).map fun _ => (⟨#[]⟩ : Str)) = true := by with_unfolding_all rfl
theorem vs_one {a : Str} {t : Tok} : ∀ i v, (#[Value.str a t] : Array Value)[i]? = some v → ∃ u, v = Value.str ((fun _ => a : Nat → Str) i) u
  | 0, _, e => ⟨t, (Option.some.inj e).symm⟩
  | i + 1, _, e => by simp at e
theorem vs_two {a b : Str} {t u : Tok} : ∀ i v, (#[Value.str a t, Value.str b u] : Array Value)[i]? = some v → ∃ u, v = Value.str ((fun i => if i = 0 then a else b : Nat → Str) i) u
  | 0, _, e => ⟨t, (Option.some.inj e).symm⟩
  | 1, _, e => ⟨u, (Option.some.inj e).symm⟩
  | i + 2, _, e => by simp at e
theorem br_turn {w : World} {dp un : Nat} {fr : Option (List Env)} {gd : Option (List Code)} {p : Program} {loose : List Str} {mean : ExcName → Option Value} {mg mb : Str → Option Value} {s : Shared} {g : Heap} {L l q : Addr}
    {P : Str} {tp ti tn : Tok} {k : Int} {n cnt x y : Nat} {r0 r1 r2 r3 r4 : List Nat} {its ps : Array Value} {v1 v2 v7 v8 v9 v10 v11 v12 : Option Value} {Q : Flow → Shared → Prop}
    (X : (hd.heap_39 w.params).In g) (T : Top p loose mean mg mb g) (hdp : dp + 10 < recursionLimit) (hun : un + 60 < cLine)
    (F : Fr g L s.heap (tm (some (.str P tp)) v1 v2 (some (.ref l)) (some (.ref q)) (some (.int k ti)) (some (.int n tn)) v7 v8 v9 v10 v11 v12))
    (N : News g L s.heap [(q, bmObj l), (l, listOf its cnt), (64, tabObj ps)]) (hl : 64 < l ∧ l < q)
    (hd0 : P.cps.toList.drop k.toNat = 91 :: r0) (hd1 : P.cps.toList.drop (k + 1).toNat = y :: r1) (hd2 : P.cps.toList.drop (k + 1 + 1).toNat = 45 :: r2) (hd3 : P.cps.toList.drop (k + 1 + 1 + 1).toNat = x :: r3) (hd4 : P.cps.toList.drop (k + 1 + 1 + 1 + 1).toNat = 93 :: r4)
    (hk0 : 0 ≤ k) (hk1 : k + 5 < n) (hP : P.cps.size = n) (hn : n ≤ 100) (hx0 : 66 ≤ x) (hx1 : x ≤ 76) (hy0 : 66 ≤ y) (hy1 : y ≤ 76) (hits : its.size ≤ 100)
    (hs0 : Txt.slice P (some (k + 1)) (some (k + 1 + 1 + 1 + 1)) = ⟨#[y, 45, x]⟩) (hs1 : Txt.slice P (some (k + 1)) (some (k + 1 + 1)) = ⟨#[y]⟩) (hs2 : Txt.slice P (some (k + 1 + 1 + 1)) (some (k + 1 + 1 + 1 + 1)) = ⟨#[x]⟩)
    (hf0 : findB P (Str.ofString "-") (k + 1 + 1) (k + 1 + 1 + 1 + 1) = k + 1 + 1) (hf1 : findB P (Str.ofString "-") (k + 1 + 1 + 3) (k + 1 + 1 + 1 + 1) = -1)
    (C : CodeHd g 68 64) (hbare : AllBare s.gens) (hps : Tb ps)
    (hret : ∀ ps' h' g' tk' t ti' w7 w8 w9 w10 w11 w12, Tb ps' → AllBare g' → Fr g L h' (tm (some (.str P tp)) v1 v2 (some (.ref l)) (some (.ref q)) (some (.int (k + 1 + 1 + 1 + 1 + 1) ti')) (some (.int n tn)) w7 w8 w9 w10 w11 w12) →
      News g L h' [(q, bmObj l), (l, listOf (its.push (.str (brText x y) t)) (cnt + 1)), (64, tabObj ps')] → Q .next { s with heap := h', gens := g', toks := tk' }) :
    wpAny (model PySem.Challenge.rw_in0246_01.row.prog w) ((⟨none, dp, fr, gd, un⟩ : Around).deeper (envOf (Str.ofString "_translate") trScope L 69 (.ref 68))) (execs trLoop (envOf (Str.ofString "_translate") trScope L 69 (.ref 68))) Q (fun _ _ => False) s := by
  obtain ⟨hl1, hl2⟩ := hl
  k_lt2 hl1
  k_lt2 hl2
  revert X
  k_with_none
  k_fill
  (k_with "exec For Name Subscript cons nil" => (k_here; (rename Fr _ _ _ _ => lF'); (with_unfolding_all refine' For_invVF lF' ?k1 ?k2 ?_; (case k1 => exact rfl); (case k2 => exact rfl); k_whole)))
  (k_with "execs cons" => (first | (k_here; k_gentoks) | ((with_reducible refine Mine.execs_nx ?_); (try dsimp only))))
  (k_with "WhlPost" => dsimp only [Mine.Nx])
  (k_with "KswPost" => dsimp only [Mine.Nx])
  (k_with "InvPostN" => dsimp only [Mine.Nx])
  (k_with "UnrPost" => dsimp only [Mine.Nx])
  (k_with "storeName" => dsimp only)
  (k_with "getAttr ref" => (k_here; k_dflt (refine' Mine.bm_make ?k1 ?k2 ?k3 ?_; (case k1 => k_asm); (case k2 => k_asm); (case k3 => k_mem); k_whole); intro q' h' F' N' l1; (try k_lt l1); (try k_sweep)))
  (k_with "callWith ref" => (k_here; k_dflt (refine' Mine.bm_with ?k1 ?k2 ?_; (case k1 => k_asm); (case k2 => k_mem); k_whole)))
  (k_with "And" => ((with_reducible show Mine.BmAt _ _ _ ∧ _); k_dflt (refine ⟨News.get (by k_asm) (by k_mem), ?_⟩); (try dsimp only [List.nil_append, List.cons_append])))
  (k_with "call ref" => (k_here; (with_reducible show wpAny _ _ (call (Value.ref _) [_]) _ _ _); k_dflt (refine' Mine.bm_append ?k1 ?k2 ?k3 ?k4 ?_ ?z; (case k1 => k_asm); (case k2 => k_asm); (case k3 => k_mem); (case k4 => k_upd); (case z => first | size_fits | (rw [PySem.sizeLine_eq]; (first | lia | omega))); k_whole); intro h' F' N'; (try k_sweep)))
  (k_with "compareOp Eq str str" => (first | (refine' Mine.eq_lit (b := true) (by first | exact Mine.one_eq Mine.lit_star rfl | exact Mine.one_eq Mine.lit_quest rfl | exact Mine.one_eq Mine.lit_open rfl | exact Mine.one_eq Mine.lit_bang rfl | exact Mine.one_eq Mine.lit_close rfl) ?_; k_whole) | (refine' Mine.eq_lit (b := false) (by first | exact Mine.one_ne Mine.lit_star (by (first | lia | omega)) | exact Mine.one_ne Mine.lit_quest (by (first | lia | omega)) | exact Mine.one_ne Mine.lit_open (by (first | lia | omega)) | exact Mine.one_ne Mine.lit_bang (by (first | lia | omega)) | exact Mine.one_ne Mine.lit_close (by (first | lia | omega))) ?_; k_whole)))
  (k_with "call ref" => ((with_reducible show wpAny _ _ (call (Value.ref 62) [Value.str _ _]) _ _ _); (rename Fr _ _ _ _ => lF'); (rename News _ _ _ _ => lN'); (with_unfolding_all refine' Mine.escape_spec (Frag.In.keeps (by assumption) lF'.keep) (Top.keeps (by assumption) lF'.keep) ?d ?u (by (first | lia | omega)) (by (first | lia | omega)) ?_); (case d => (dsimp only; (first | lia | omega))); (case u => (dsimp only; (first | lia | omega))); intro t9 h9 tk9 hk9; have F9 := Mine.fr_keep lF' hk9; have N9 := Mine.news_keep lN' hk9; clear lF' lN' hk9))
  (k_with "subscriptTail Name Name str int" => (k_dflt (refine' Mine.item_pos (by assumption) (by assumption) (by assumption) (by assumption) (by assumption) ?_; k_whole)))
  (k_with "compareOp NotEq str str" => (first | (refine' Mine.ne_lit (b := true) (by first | exact Mine.one_eq Mine.lit_close rfl) ?_; k_whole) | (refine' Mine.ne_lit (b := false) (by first | exact Mine.one_ne Mine.lit_close (by (first | lia | omega))) ?_; k_whole)))
  (k_with "exec While BoolOp cons nil" => (k_dflt (refine whl_start 100 ?_)))
  (k_with "compareOp Lt int int" => first | (refine Mine.lt_yes (by assumption) ?_; k_whole) | (refine Mine.lt_no (by assumption) ?_; k_whole))
  (k_with "compareOp GtE int int" => (refine Mine.ge_no (by (first | lia | omega)) ?_; k_whole))
  intro X
  conv in (execs trLoop _) =>
    arg 1
    whnf
  conv in (occs := *) (envOf _ trScope _ _ _) =>
    all_goals (arg 2; whnf)
  (try k_fold)
  have hm0 : k < n := by (first | lia | omega)
  have hm1 : k + 1 < n := by (first | lia | omega)
  have hm2 : k + 1 + 1 < n := by (first | lia | omega)
  have hm3 : k + 1 + 1 + 1 < n := by (first | lia | omega)
  have hm4 : k + 1 + 1 + 1 + 1 < n := by (first | lia | omega)
  have hz1 : 0 ≤ k + 1 := by (first | lia | omega)
  have hz2 : 0 ≤ k + 1 + 1 := by (first | lia | omega)
  have hz3 : 0 ≤ k + 1 + 1 + 1 := by (first | lia | omega)
  have hz4 : 0 ≤ k + 1 + 1 + 1 + 1 := by (first | lia | omega)
  have hPL : P.length ≤ sizeLine := by
    rw [PySem.sizeLine_eq]
    have : P.length = P.cps.size := rfl
    (first | lia | omega)
  (k_with "subscriptTail Name Slice str ref" => ((with_reducible rename Fr _ _ _ _ => F'); (with_reducible rename News _ _ _ _ => N'); refine slice_strN_ss (hsz := hPL) (s := ⟨_, _, _, _, _⟩) F' N' ?_; intro h8 t8 k8 F8 N8; (first | rw [hs0] | rw [hs1] | rw [hs2]); clear F' N'))
  (k_with "compareOp NotIn str str" => refine notin_lit (b := true) (dash_in (by (first | lia | omega)) (by (first | lia | omega)) (by (first | lia | omega)) (by (first | lia | omega))) ?_)
  (k_with "call builtin:str.find" => first | refine find_lit hf0 ?_ | refine find_lit hf1 ?_)
  (k_with "truthy str" => refine truthy_one ?_)
  (k_with "exec For Name Call cons nil" => refine hold ?_)
  k_steps
  refine unhold ?_
  k_with_none
  (k_with "exec For Name Subscript cons nil" => (k_here; (rename Fr _ _ _ _ => lF'); (with_unfolding_all refine' For_invVF lF' ?k1 ?k2 ?_; (case k1 => exact rfl); (case k2 => exact rfl); k_whole)))
  (k_with "execs cons" => (first | (k_here; k_gentoks) | ((with_reducible refine Mine.execs_nx ?_); (try dsimp only))))
  (k_with "WhlPost" => dsimp only [Mine.Nx])
  (k_with "KswPost" => dsimp only [Mine.Nx])
  (k_with "InvPostN" => dsimp only [Mine.Nx])
  (k_with "UnrPost" => dsimp only [Mine.Nx])
  (k_with "storeName" => dsimp only)
  (k_with "getAttr ref" => (k_here; k_dflt (refine' Mine.bm_make ?k1 ?k2 ?k3 ?_; (case k1 => k_asm); (case k2 => k_asm); (case k3 => k_mem); k_whole); intro q' h' F' N' l1; (try k_lt l1); (try k_sweep)))
  (k_with "callWith ref" => (k_here; k_dflt (refine' Mine.bm_with ?k1 ?k2 ?_; (case k1 => k_asm); (case k2 => k_mem); k_whole)))
  (k_with "And" => ((with_reducible show Mine.BmAt _ _ _ ∧ _); k_dflt (refine ⟨News.get (by k_asm) (by k_mem), ?_⟩); (try dsimp only [List.nil_append, List.cons_append])))
  (k_with "call ref" => (k_here; (with_reducible show wpAny _ _ (call (Value.ref _) [_]) _ _ _); k_dflt (refine' Mine.bm_append ?k1 ?k2 ?k3 ?k4 ?_ ?z; (case k1 => k_asm); (case k2 => k_asm); (case k3 => k_mem); (case k4 => k_upd); (case z => first | size_fits | (rw [PySem.sizeLine_eq]; (first | lia | omega))); k_whole); intro h' F' N'; (try k_sweep)))
  (k_with "compareOp Eq str str" => (first | (refine' Mine.eq_lit (b := true) (by first | exact Mine.one_eq Mine.lit_star rfl | exact Mine.one_eq Mine.lit_quest rfl | exact Mine.one_eq Mine.lit_open rfl | exact Mine.one_eq Mine.lit_bang rfl | exact Mine.one_eq Mine.lit_close rfl) ?_; k_whole) | (refine' Mine.eq_lit (b := false) (by first | exact Mine.one_ne Mine.lit_star (by (first | lia | omega)) | exact Mine.one_ne Mine.lit_quest (by (first | lia | omega)) | exact Mine.one_ne Mine.lit_open (by (first | lia | omega)) | exact Mine.one_ne Mine.lit_bang (by (first | lia | omega)) | exact Mine.one_ne Mine.lit_close (by (first | lia | omega))) ?_; k_whole)))
  (k_with "call ref" => ((with_reducible show wpAny _ _ (call (Value.ref 62) [Value.str _ _]) _ _ _); (rename Fr _ _ _ _ => lF'); (rename News _ _ _ _ => lN'); (with_unfolding_all refine' Mine.escape_spec (Frag.In.keeps (by assumption) lF'.keep) (Top.keeps (by assumption) lF'.keep) ?d ?u (by (first | lia | omega)) (by (first | lia | omega)) ?_); (case d => (dsimp only; (first | lia | omega))); (case u => (dsimp only; (first | lia | omega))); intro t9 h9 tk9 hk9; have F9 := Mine.fr_keep lF' hk9; have N9 := Mine.news_keep lN' hk9; clear lF' lN' hk9))
  (k_with "subscriptTail Name Name str int" => (k_dflt (refine' Mine.item_pos (by assumption) (by assumption) (by assumption) (by assumption) (by assumption) ?_; k_whole)))
  (k_with "compareOp NotEq str str" => (first | (refine' Mine.ne_lit (b := true) (by first | exact Mine.one_eq Mine.lit_close rfl) ?_; k_whole) | (refine' Mine.ne_lit (b := false) (by first | exact Mine.one_ne Mine.lit_close (by (first | lia | omega))) ?_; k_whole)))
  (k_with "exec While BoolOp cons nil" => (k_dflt (refine whl_start 100 ?_)))
  (k_with "compareOp Lt int int" => first | (refine Mine.lt_yes (by assumption) ?_; k_whole) | (refine Mine.lt_no (by assumption) ?_; k_whole))
  (k_with "compareOp GtE int int" => (refine Mine.ge_no (by (first | lia | omega)) ?_; k_whole))
  rename Fr _ _ _ _ => F'
  rename News _ _ _ _ => N'
  have F2 : Fr g L _ (tm (some (.str P tp)) v1 v2 (some (.ref l)) (some (.ref q)) (some (.int (k + 1 + 1 + 1) _)) (some (.int n tn)) (some (.str ⟨#[91]⟩ _)) (some (.int (k + 1 + 1 + 1 + 1) _)) (some (.str ⟨#[y, 45, x]⟩ _)) (some (.ref _)) (some (.int (-1) _)) (some (.str ⟨#[x]⟩ _))) :=
    fr_tm F' rfl rfl rfl rfl rfl rfl rfl rfl rfl rfl rfl rfl rfl (by (intros; repeat (first | (apply Mine.tmn <;> assumption) | refine Mine.ifn (by assumption) ?_)))
  clear F'
  rename (_ < _ ∧ _ < _ ∧ _ < _) => l1
  have hla := And.intro hl1 (And.intro hl2 l1.1)
  (k_with "exec Assign" => refine hold ?_)
  refine for_spec (s := ⟨_, _, _, _, _⟩) X T hdp hun F2 N' hla ?_ ?_
  · intro hxy h9 tk9 t9 t9' m9 F9 N9
    clear F2 N'
    k_steps
    refine unhold ?_
    refine join_spec (s := ⟨_, _, _, _, _⟩) X T hdp hun C F9 N9 hla hbare hps vs_one (fun _ _ => ⟨by with_unfolding_all rfl, by with_unfolding_all rfl⟩) join_nil (Nat.le_of_ble_eq_true rfl) joinok_nil ?_
    intro ps2 h2 g2 tk2 t2 hps2 F3 N3 hb2
    clear F9 N9
    k_steps
    refine unhold ?_
    refine sub_spec (s := ⟨_, _, _, _, _⟩) X T hdp hun C F3 (fun z hz => N3 z (.tail _ hz)) ⟨hl1, hl2⟩ hps2 sre_zero (Nat.le_of_ble_eq_true rfl) ?_
    intro ps3 h3 tk3 t3 hps3 F4 N4
    clear F3 N3
    k_steps
    refine unhold ?_
    k_with_none
    (k_with "exec For Name Subscript cons nil" => (k_here; (rename Fr _ _ _ _ => lF'); (with_unfolding_all refine' For_invVF lF' ?k1 ?k2 ?_; (case k1 => exact rfl); (case k2 => exact rfl); k_whole)))
    (k_with "execs cons" => (first | (k_here; k_gentoks) | ((with_reducible refine Mine.execs_nx ?_); (try dsimp only))))
    (k_with "WhlPost" => dsimp only [Mine.Nx])
    (k_with "KswPost" => dsimp only [Mine.Nx])
    (k_with "InvPostN" => dsimp only [Mine.Nx])
    (k_with "UnrPost" => dsimp only [Mine.Nx])
    (k_with "storeName" => dsimp only)
    (k_with "getAttr ref" => (k_here; k_dflt (refine' Mine.bm_make ?k1 ?k2 ?k3 ?_; (case k1 => k_asm); (case k2 => k_asm); (case k3 => k_mem); k_whole); intro q' h' F' N' l1; (try k_lt l1); (try k_sweep)))
    (k_with "callWith ref" => (k_here; k_dflt (refine' Mine.bm_with ?k1 ?k2 ?_; (case k1 => k_asm); (case k2 => k_mem); k_whole)))
    (k_with "And" => ((with_reducible show Mine.BmAt _ _ _ ∧ _); k_dflt (refine ⟨News.get (by k_asm) (by k_mem), ?_⟩); (try dsimp only [List.nil_append, List.cons_append])))
    (k_with "call ref" => (k_here; (with_reducible show wpAny _ _ (call (Value.ref _) [_]) _ _ _); k_dflt (refine' Mine.bm_append ?k1 ?k2 ?k3 ?k4 ?_ ?z; (case k1 => k_asm); (case k2 => k_asm); (case k3 => k_mem); (case k4 => k_upd); (case z => first | size_fits | (rw [PySem.sizeLine_eq]; (first | lia | omega))); k_whole); intro h' F' N'; (try k_sweep)))
    (k_with "compareOp Eq str str" => (first | (refine' Mine.eq_lit (b := true) (by first | exact Mine.one_eq Mine.lit_star rfl | exact Mine.one_eq Mine.lit_quest rfl | exact Mine.one_eq Mine.lit_open rfl | exact Mine.one_eq Mine.lit_bang rfl | exact Mine.one_eq Mine.lit_close rfl) ?_; k_whole) | (refine' Mine.eq_lit (b := false) (by first | exact Mine.one_ne Mine.lit_star (by (first | lia | omega)) | exact Mine.one_ne Mine.lit_quest (by (first | lia | omega)) | exact Mine.one_ne Mine.lit_open (by (first | lia | omega)) | exact Mine.one_ne Mine.lit_bang (by (first | lia | omega)) | exact Mine.one_ne Mine.lit_close (by (first | lia | omega))) ?_; k_whole)))
    (k_with "call ref" => ((with_reducible show wpAny _ _ (call (Value.ref 62) [Value.str _ _]) _ _ _); (rename Fr _ _ _ _ => lF'); (rename News _ _ _ _ => lN'); (with_unfolding_all refine' Mine.escape_spec (Frag.In.keeps (by assumption) lF'.keep) (Top.keeps (by assumption) lF'.keep) ?d ?u (by (first | lia | omega)) (by (first | lia | omega)) ?_); (case d => (dsimp only; (first | lia | omega))); (case u => (dsimp only; (first | lia | omega))); intro t9 h9 tk9 hk9; have F9 := Mine.fr_keep lF' hk9; have N9 := Mine.news_keep lN' hk9; clear lF' lN' hk9))
    (k_with "subscriptTail Name Name str int" => (k_dflt (refine' Mine.item_pos (by assumption) (by assumption) (by assumption) (by assumption) (by assumption) ?_; k_whole)))
    (k_with "compareOp NotEq str str" => (first | (refine' Mine.ne_lit (b := true) (by first | exact Mine.one_eq Mine.lit_close rfl) ?_; k_whole) | (refine' Mine.ne_lit (b := false) (by first | exact Mine.one_ne Mine.lit_close (by (first | lia | omega))) ?_; k_whole)))
    (k_with "exec While BoolOp cons nil" => (k_dflt (refine whl_start 100 ?_)))
    (k_with "compareOp Lt int int" => first | (refine Mine.lt_yes (by assumption) ?_; k_whole) | (refine Mine.lt_no (by assumption) ?_; k_whole))
    (k_with "compareOp GtE int int" => (refine Mine.ge_no (by (first | lia | omega)) ?_; k_whole))
    (k_with "exec If" => refine hold ?_)
    k_steps
    refine unhold ?_
    k_with_none
    (k_with "exec For Name Subscript cons nil" => (k_here; (rename Fr _ _ _ _ => lF'); (with_unfolding_all refine' For_invVF lF' ?k1 ?k2 ?_; (case k1 => exact rfl); (case k2 => exact rfl); k_whole)))
    (k_with "execs cons" => (first | (k_here; k_gentoks) | ((with_reducible refine Mine.execs_nx ?_); (try dsimp only))))
    (k_with "WhlPost" => dsimp only [Mine.Nx])
    (k_with "KswPost" => dsimp only [Mine.Nx])
    (k_with "InvPostN" => dsimp only [Mine.Nx])
    (k_with "UnrPost" => dsimp only [Mine.Nx])
    (k_with "storeName" => dsimp only)
    (k_with "getAttr ref" => (k_here; k_dflt (refine' Mine.bm_make ?k1 ?k2 ?k3 ?_; (case k1 => k_asm); (case k2 => k_asm); (case k3 => k_mem); k_whole); intro q' h' F' N' l1; (try k_lt l1); (try k_sweep)))
    (k_with "callWith ref" => (k_here; k_dflt (refine' Mine.bm_with ?k1 ?k2 ?_; (case k1 => k_asm); (case k2 => k_mem); k_whole)))
    (k_with "And" => ((with_reducible show Mine.BmAt _ _ _ ∧ _); k_dflt (refine ⟨News.get (by k_asm) (by k_mem), ?_⟩); (try dsimp only [List.nil_append, List.cons_append])))
    (k_with "call ref" => (k_here; (with_reducible show wpAny _ _ (call (Value.ref _) [_]) _ _ _); k_dflt (refine' Mine.bm_append ?k1 ?k2 ?k3 ?k4 ?_ ?z; (case k1 => k_asm); (case k2 => k_asm); (case k3 => k_mem); (case k4 => k_upd); (case z => first | size_fits | (rw [PySem.sizeLine_eq]; (first | lia | omega))); k_whole); intro h' F' N'; (try k_sweep)))
    (k_with "compareOp Eq str str" => (first | (refine' Mine.eq_lit (b := true) (by first | exact Mine.one_eq Mine.lit_star rfl | exact Mine.one_eq Mine.lit_quest rfl | exact Mine.one_eq Mine.lit_open rfl | exact Mine.one_eq Mine.lit_bang rfl | exact Mine.one_eq Mine.lit_close rfl) ?_; k_whole) | (refine' Mine.eq_lit (b := false) (by first | exact Mine.one_ne Mine.lit_star (by (first | lia | omega)) | exact Mine.one_ne Mine.lit_quest (by (first | lia | omega)) | exact Mine.one_ne Mine.lit_open (by (first | lia | omega)) | exact Mine.one_ne Mine.lit_bang (by (first | lia | omega)) | exact Mine.one_ne Mine.lit_close (by (first | lia | omega))) ?_; k_whole)))
    (k_with "call ref" => ((with_reducible show wpAny _ _ (call (Value.ref 62) [Value.str _ _]) _ _ _); (rename Fr _ _ _ _ => lF'); (rename News _ _ _ _ => lN'); (with_unfolding_all refine' Mine.escape_spec (Frag.In.keeps (by assumption) lF'.keep) (Top.keeps (by assumption) lF'.keep) ?d ?u (by (first | lia | omega)) (by (first | lia | omega)) ?_); (case d => (dsimp only; (first | lia | omega))); (case u => (dsimp only; (first | lia | omega))); intro t9 h9 tk9 hk9; have F9 := Mine.fr_keep lF' hk9; have N9 := Mine.news_keep lN' hk9; clear lF' lN' hk9))
    (k_with "subscriptTail Name Name str int" => (k_dflt (refine' Mine.item_pos (by assumption) (by assumption) (by assumption) (by assumption) (by assumption) ?_; k_whole)))
    (k_with "compareOp NotEq str str" => (first | (refine' Mine.ne_lit (b := true) (by first | exact Mine.one_eq Mine.lit_close rfl) ?_; k_whole) | (refine' Mine.ne_lit (b := false) (by first | exact Mine.one_ne Mine.lit_close (by (first | lia | omega))) ?_; k_whole)))
    (k_with "exec While BoolOp cons nil" => (k_dflt (refine whl_start 100 ?_)))
    (k_with "compareOp Lt int int" => first | (refine Mine.lt_yes (by assumption) ?_; k_whole) | (refine Mine.lt_no (by assumption) ?_; k_whole))
    (k_with "compareOp GtE int int" => (refine Mine.ge_no (by (first | lia | omega)) ?_; k_whole))
    rename Fr _ _ _ _ => F'
    rename News _ _ _ _ => N'
    have F5 : Fr g L _ (tm (some (.str P tp)) v1 v2 (some (.ref l)) (some (.ref q)) (some (.int (k + 1 + 1 + 1 + 1 + 1) _)) (some (.int n tn)) (some (.str ⟨#[91]⟩ _)) (some (.int (k + 1 + 1 + 1 + 1) _)) (some (.str ⟨#[]⟩ _)) (some (.ref _)) (some (.int 1 _)) (some (.str ⟨#[x]⟩ _))) :=
      fr_tm F' rfl rfl rfl rfl rfl rfl rfl rfl rfl rfl rfl rfl rfl (by (intros; repeat (first | (apply Mine.tmn <;> assumption) | refine Mine.ifn (by assumption) ?_)))
    clear F'
    refine add0_spec (s := ⟨_, _, _, _, _⟩) X T hdp hun F5 N' ⟨hl1, hl2⟩ hits ?_
    intro h5 tk5 t5 F6 N6
    clear F5 N'
    k_steps
    exact hret _ _ _ _ _ _ _ _ _ _ _ _ hps3 hb2 F6 (by rw [brText_yes hxy]; exact N6)
    k_with_none
    (k_with "exec For Name Subscript cons nil" => (k_here; (rename Fr _ _ _ _ => lF'); (with_unfolding_all refine' For_invVF lF' ?k1 ?k2 ?_; (case k1 => exact rfl); (case k2 => exact rfl); k_whole)))
    (k_with "execs cons" => (first | (k_here; k_gentoks) | ((with_reducible refine Mine.execs_nx ?_); (try dsimp only))))
    (k_with "WhlPost" => dsimp only [Mine.Nx])
    (k_with "KswPost" => dsimp only [Mine.Nx])
    (k_with "InvPostN" => dsimp only [Mine.Nx])
    (k_with "UnrPost" => dsimp only [Mine.Nx])
    (k_with "storeName" => dsimp only)
    (k_with "getAttr ref" => (k_here; k_dflt (refine' Mine.bm_make ?k1 ?k2 ?k3 ?_; (case k1 => k_asm); (case k2 => k_asm); (case k3 => k_mem); k_whole); intro q' h' F' N' l1; (try k_lt l1); (try k_sweep)))
    (k_with "callWith ref" => (k_here; k_dflt (refine' Mine.bm_with ?k1 ?k2 ?_; (case k1 => k_asm); (case k2 => k_mem); k_whole)))
    (k_with "And" => ((with_reducible show Mine.BmAt _ _ _ ∧ _); k_dflt (refine ⟨News.get (by k_asm) (by k_mem), ?_⟩); (try dsimp only [List.nil_append, List.cons_append])))
    (k_with "call ref" => (k_here; (with_reducible show wpAny _ _ (call (Value.ref _) [_]) _ _ _); k_dflt (refine' Mine.bm_append ?k1 ?k2 ?k3 ?k4 ?_ ?z; (case k1 => k_asm); (case k2 => k_asm); (case k3 => k_mem); (case k4 => k_upd); (case z => first | size_fits | (rw [PySem.sizeLine_eq]; (first | lia | omega))); k_whole); intro h' F' N'; (try k_sweep)))
    (k_with "compareOp Eq str str" => (first | (refine' Mine.eq_lit (b := true) (by first | exact Mine.one_eq Mine.lit_star rfl | exact Mine.one_eq Mine.lit_quest rfl | exact Mine.one_eq Mine.lit_open rfl | exact Mine.one_eq Mine.lit_bang rfl | exact Mine.one_eq Mine.lit_close rfl) ?_; k_whole) | (refine' Mine.eq_lit (b := false) (by first | exact Mine.one_ne Mine.lit_star (by (first | lia | omega)) | exact Mine.one_ne Mine.lit_quest (by (first | lia | omega)) | exact Mine.one_ne Mine.lit_open (by (first | lia | omega)) | exact Mine.one_ne Mine.lit_bang (by (first | lia | omega)) | exact Mine.one_ne Mine.lit_close (by (first | lia | omega))) ?_; k_whole)))
    (k_with "call ref" => ((with_reducible show wpAny _ _ (call (Value.ref 62) [Value.str _ _]) _ _ _); (rename Fr _ _ _ _ => lF'); (rename News _ _ _ _ => lN'); (with_unfolding_all refine' Mine.escape_spec (Frag.In.keeps (by assumption) lF'.keep) (Top.keeps (by assumption) lF'.keep) ?d ?u (by (first | lia | omega)) (by (first | lia | omega)) ?_); (case d => (dsimp only; (first | lia | omega))); (case u => (dsimp only; (first | lia | omega))); intro t9 h9 tk9 hk9; have F9 := Mine.fr_keep lF' hk9; have N9 := Mine.news_keep lN' hk9; clear lF' lN' hk9))
    (k_with "subscriptTail Name Name str int" => (k_dflt (refine' Mine.item_pos (by assumption) (by assumption) (by assumption) (by assumption) (by assumption) ?_; k_whole)))
    (k_with "compareOp NotEq str str" => (first | (refine' Mine.ne_lit (b := true) (by first | exact Mine.one_eq Mine.lit_close rfl) ?_; k_whole) | (refine' Mine.ne_lit (b := false) (by first | exact Mine.one_ne Mine.lit_close (by (first | lia | omega))) ?_; k_whole)))
    (k_with "exec While BoolOp cons nil" => (k_dflt (refine whl_start 100 ?_)))
    (k_with "compareOp Lt int int" => first | (refine Mine.lt_yes (by assumption) ?_; k_whole) | (refine Mine.lt_no (by assumption) ?_; k_whole))
    (k_with "compareOp GtE int int" => (refine Mine.ge_no (by (first | lia | omega)) ?_; k_whole))
    (k_with "exec Assign" => refine hold ?_)
  · intro hxy h9 tk9 t9 F9 N9
    clear F2 N'
    k_steps
    refine unhold ?_
    refine join_spec (s := ⟨_, _, _, _, _⟩) X T hdp hun C F9 N9 hla hbare hps vs_two (fun i _ => by split <;> exact ⟨noocc_back (by assumption) (by assumption), noocc_dash (by assumption) (by assumption)⟩) (join_two y x) (Nat.le_of_ble_eq_true rfl) (joinok_two y x) ?_
    intro ps2 h2 g2 tk2 t2 hps2 F3 N3 hb2
    clear F9 N9
    k_steps
    refine unhold ?_
    refine sub_spec (s := ⟨_, _, _, _, _⟩) X T hdp hun C F3 (fun z hz => N3 z (.tail _ hz)) ⟨hl1, hl2⟩ hps2 (fails_three hx0 hx1 hy0 hy1) (Nat.le_of_ble_eq_true rfl) ?_
    intro ps3 h3 tk3 t3 hps3 F4 N4
    clear F3 N3
    k_steps
    refine unhold ?_
    k_with_none
    (k_with "exec For Name Subscript cons nil" => (k_here; (rename Fr _ _ _ _ => lF'); (with_unfolding_all refine' For_invVF lF' ?k1 ?k2 ?_; (case k1 => exact rfl); (case k2 => exact rfl); k_whole)))
    (k_with "execs cons" => (first | (k_here; k_gentoks) | ((with_reducible refine Mine.execs_nx ?_); (try dsimp only))))
    (k_with "WhlPost" => dsimp only [Mine.Nx])
    (k_with "KswPost" => dsimp only [Mine.Nx])
    (k_with "InvPostN" => dsimp only [Mine.Nx])
    (k_with "UnrPost" => dsimp only [Mine.Nx])
    (k_with "storeName" => dsimp only)
    (k_with "getAttr ref" => (k_here; k_dflt (refine' Mine.bm_make ?k1 ?k2 ?k3 ?_; (case k1 => k_asm); (case k2 => k_asm); (case k3 => k_mem); k_whole); intro q' h' F' N' l1; (try k_lt l1); (try k_sweep)))
    (k_with "callWith ref" => (k_here; k_dflt (refine' Mine.bm_with ?k1 ?k2 ?_; (case k1 => k_asm); (case k2 => k_mem); k_whole)))
    (k_with "And" => ((with_reducible show Mine.BmAt _ _ _ ∧ _); k_dflt (refine ⟨News.get (by k_asm) (by k_mem), ?_⟩); (try dsimp only [List.nil_append, List.cons_append])))
    (k_with "call ref" => (k_here; (with_reducible show wpAny _ _ (call (Value.ref _) [_]) _ _ _); k_dflt (refine' Mine.bm_append ?k1 ?k2 ?k3 ?k4 ?_ ?z; (case k1 => k_asm); (case k2 => k_asm); (case k3 => k_mem); (case k4 => k_upd); (case z => first | size_fits | (rw [PySem.sizeLine_eq]; (first | lia | omega))); k_whole); intro h' F' N'; (try k_sweep)))
    (k_with "compareOp Eq str str" => (first | (refine' Mine.eq_lit (b := true) (by first | exact Mine.one_eq Mine.lit_star rfl | exact Mine.one_eq Mine.lit_quest rfl | exact Mine.one_eq Mine.lit_open rfl | exact Mine.one_eq Mine.lit_bang rfl | exact Mine.one_eq Mine.lit_close rfl) ?_; k_whole) | (refine' Mine.eq_lit (b := false) (by first | exact Mine.one_ne Mine.lit_star (by (first | lia | omega)) | exact Mine.one_ne Mine.lit_quest (by (first | lia | omega)) | exact Mine.one_ne Mine.lit_open (by (first | lia | omega)) | exact Mine.one_ne Mine.lit_bang (by (first | lia | omega)) | exact Mine.one_ne Mine.lit_close (by (first | lia | omega))) ?_; k_whole)))
    (k_with "call ref" => ((with_reducible show wpAny _ _ (call (Value.ref 62) [Value.str _ _]) _ _ _); (rename Fr _ _ _ _ => lF'); (rename News _ _ _ _ => lN'); (with_unfolding_all refine' Mine.escape_spec (Frag.In.keeps (by assumption) lF'.keep) (Top.keeps (by assumption) lF'.keep) ?d ?u (by (first | lia | omega)) (by (first | lia | omega)) ?_); (case d => (dsimp only; (first | lia | omega))); (case u => (dsimp only; (first | lia | omega))); intro t9 h9 tk9 hk9; have F9 := Mine.fr_keep lF' hk9; have N9 := Mine.news_keep lN' hk9; clear lF' lN' hk9))
    (k_with "subscriptTail Name Name str int" => (k_dflt (refine' Mine.item_pos (by assumption) (by assumption) (by assumption) (by assumption) (by assumption) ?_; k_whole)))
    (k_with "compareOp NotEq str str" => (first | (refine' Mine.ne_lit (b := true) (by first | exact Mine.one_eq Mine.lit_close rfl) ?_; k_whole) | (refine' Mine.ne_lit (b := false) (by first | exact Mine.one_ne Mine.lit_close (by (first | lia | omega))) ?_; k_whole)))
    (k_with "exec While BoolOp cons nil" => (k_dflt (refine whl_start 100 ?_)))
    (k_with "compareOp Lt int int" => first | (refine Mine.lt_yes (by assumption) ?_; k_whole) | (refine Mine.lt_no (by assumption) ?_; k_whole))
    (k_with "compareOp GtE int int" => (refine Mine.ge_no (by (first | lia | omega)) ?_; k_whole))
    (k_with "exec If" => refine hold ?_)
    k_steps
    refine unhold ?_
    k_with_none
    (k_with "exec For Name Subscript cons nil" => (k_here; (rename Fr _ _ _ _ => lF'); (with_unfolding_all refine' For_invVF lF' ?k1 ?k2 ?_; (case k1 => exact rfl); (case k2 => exact rfl); k_whole)))
    (k_with "execs cons" => (first | (k_here; k_gentoks) | ((with_reducible refine Mine.execs_nx ?_); (try dsimp only))))
    (k_with "WhlPost" => dsimp only [Mine.Nx])
    (k_with "KswPost" => dsimp only [Mine.Nx])
    (k_with "InvPostN" => dsimp only [Mine.Nx])
    (k_with "UnrPost" => dsimp only [Mine.Nx])
    (k_with "storeName" => dsimp only)
    (k_with "getAttr ref" => (k_here; k_dflt (refine' Mine.bm_make ?k1 ?k2 ?k3 ?_; (case k1 => k_asm); (case k2 => k_asm); (case k3 => k_mem); k_whole); intro q' h' F' N' l1; (try k_lt l1); (try k_sweep)))
    (k_with "callWith ref" => (k_here; k_dflt (refine' Mine.bm_with ?k1 ?k2 ?_; (case k1 => k_asm); (case k2 => k_mem); k_whole)))
    (k_with "And" => ((with_reducible show Mine.BmAt _ _ _ ∧ _); k_dflt (refine ⟨News.get (by k_asm) (by k_mem), ?_⟩); (try dsimp only [List.nil_append, List.cons_append])))
    (k_with "call ref" => (k_here; (with_reducible show wpAny _ _ (call (Value.ref _) [_]) _ _ _); k_dflt (refine' Mine.bm_append ?k1 ?k2 ?k3 ?k4 ?_ ?z; (case k1 => k_asm); (case k2 => k_asm); (case k3 => k_mem); (case k4 => k_upd); (case z => first | size_fits | (rw [PySem.sizeLine_eq]; (first | lia | omega))); k_whole); intro h' F' N'; (try k_sweep)))
    (k_with "compareOp Eq str str" => (first | (refine' Mine.eq_lit (b := true) (by first | exact Mine.one_eq Mine.lit_star rfl | exact Mine.one_eq Mine.lit_quest rfl | exact Mine.one_eq Mine.lit_open rfl | exact Mine.one_eq Mine.lit_bang rfl | exact Mine.one_eq Mine.lit_close rfl) ?_; k_whole) | (refine' Mine.eq_lit (b := false) (by first | exact Mine.one_ne Mine.lit_star (by (first | lia | omega)) | exact Mine.one_ne Mine.lit_quest (by (first | lia | omega)) | exact Mine.one_ne Mine.lit_open (by (first | lia | omega)) | exact Mine.one_ne Mine.lit_bang (by (first | lia | omega)) | exact Mine.one_ne Mine.lit_close (by (first | lia | omega))) ?_; k_whole)))
    (k_with "call ref" => ((with_reducible show wpAny _ _ (call (Value.ref 62) [Value.str _ _]) _ _ _); (rename Fr _ _ _ _ => lF'); (rename News _ _ _ _ => lN'); (with_unfolding_all refine' Mine.escape_spec (Frag.In.keeps (by assumption) lF'.keep) (Top.keeps (by assumption) lF'.keep) ?d ?u (by (first | lia | omega)) (by (first | lia | omega)) ?_); (case d => (dsimp only; (first | lia | omega))); (case u => (dsimp only; (first | lia | omega))); intro t9 h9 tk9 hk9; have F9 := Mine.fr_keep lF' hk9; have N9 := Mine.news_keep lN' hk9; clear lF' lN' hk9))
    (k_with "subscriptTail Name Name str int" => (k_dflt (refine' Mine.item_pos (by assumption) (by assumption) (by assumption) (by assumption) (by assumption) ?_; k_whole)))
    (k_with "compareOp NotEq str str" => (first | (refine' Mine.ne_lit (b := true) (by first | exact Mine.one_eq Mine.lit_close rfl) ?_; k_whole) | (refine' Mine.ne_lit (b := false) (by first | exact Mine.one_ne Mine.lit_close (by (first | lia | omega))) ?_; k_whole)))
    (k_with "exec While BoolOp cons nil" => (k_dflt (refine whl_start 100 ?_)))
    (k_with "compareOp Lt int int" => first | (refine Mine.lt_yes (by assumption) ?_; k_whole) | (refine Mine.lt_no (by assumption) ?_; k_whole))
    (k_with "compareOp GtE int int" => (refine Mine.ge_no (by (first | lia | omega)) ?_; k_whole))
    rename Fr _ _ _ _ => F'
    rename News _ _ _ _ => N'
    have F5 : Fr g L _ (tm (some (.str P tp)) v1 v2 (some (.ref l)) (some (.ref q)) (some (.int (k + 1 + 1 + 1 + 1 + 1) _)) (some (.int n tn)) (some (.str ⟨#[91]⟩ _)) (some (.int (k + 1 + 1 + 1 + 1) _)) (some (.str ⟨#[y, 45, x]⟩ _)) (some (.ref _)) (some (.int 1 _)) (some (.str ⟨#[x]⟩ _))) :=
      fr_tm F' rfl rfl rfl rfl rfl rfl rfl rfl rfl rfl rfl rfl rfl (by (intros; repeat (first | (apply Mine.tmn <;> assumption) | refine Mine.ifn (by assumption) ?_)))
    clear F'
    refine add_spec (s := ⟨_, _, _, _, _⟩) X T hdp hun F5 N' ⟨hl1, hl2⟩ hits hx0 hx1 hy0 hy1 ?_
    intro h5 tk5 t5 F6 N6
    clear F5 N'
    k_steps
    exact hret _ _ _ _ _ _ _ _ _ _ _ _ hps3 hb2 F6 (by rw [brText_no hxy]; exact N6)
    k_with_none
    (k_with "exec For Name Subscript cons nil" => (k_here; (rename Fr _ _ _ _ => lF'); (with_unfolding_all refine' For_invVF lF' ?k1 ?k2 ?_; (case k1 => exact rfl); (case k2 => exact rfl); k_whole)))
    (k_with "execs cons" => (first | (k_here; k_gentoks) | ((with_reducible refine Mine.execs_nx ?_); (try dsimp only))))
    (k_with "WhlPost" => dsimp only [Mine.Nx])
    (k_with "KswPost" => dsimp only [Mine.Nx])
    (k_with "InvPostN" => dsimp only [Mine.Nx])
    (k_with "UnrPost" => dsimp only [Mine.Nx])
    (k_with "storeName" => dsimp only)
    (k_with "getAttr ref" => (k_here; k_dflt (refine' Mine.bm_make ?k1 ?k2 ?k3 ?_; (case k1 => k_asm); (case k2 => k_asm); (case k3 => k_mem); k_whole); intro q' h' F' N' l1; (try k_lt l1); (try k_sweep)))
    (k_with "callWith ref" => (k_here; k_dflt (refine' Mine.bm_with ?k1 ?k2 ?_; (case k1 => k_asm); (case k2 => k_mem); k_whole)))
    (k_with "And" => ((with_reducible show Mine.BmAt _ _ _ ∧ _); k_dflt (refine ⟨News.get (by k_asm) (by k_mem), ?_⟩); (try dsimp only [List.nil_append, List.cons_append])))
    (k_with "call ref" => (k_here; (with_reducible show wpAny _ _ (call (Value.ref _) [_]) _ _ _); k_dflt (refine' Mine.bm_append ?k1 ?k2 ?k3 ?k4 ?_ ?z; (case k1 => k_asm); (case k2 => k_asm); (case k3 => k_mem); (case k4 => k_upd); (case z => first | size_fits | (rw [PySem.sizeLine_eq]; (first | lia | omega))); k_whole); intro h' F' N'; (try k_sweep)))
    (k_with "compareOp Eq str str" => (first | (refine' Mine.eq_lit (b := true) (by first | exact Mine.one_eq Mine.lit_star rfl | exact Mine.one_eq Mine.lit_quest rfl | exact Mine.one_eq Mine.lit_open rfl | exact Mine.one_eq Mine.lit_bang rfl | exact Mine.one_eq Mine.lit_close rfl) ?_; k_whole) | (refine' Mine.eq_lit (b := false) (by first | exact Mine.one_ne Mine.lit_star (by (first | lia | omega)) | exact Mine.one_ne Mine.lit_quest (by (first | lia | omega)) | exact Mine.one_ne Mine.lit_open (by (first | lia | omega)) | exact Mine.one_ne Mine.lit_bang (by (first | lia | omega)) | exact Mine.one_ne Mine.lit_close (by (first | lia | omega))) ?_; k_whole)))
    (k_with "call ref" => ((with_reducible show wpAny _ _ (call (Value.ref 62) [Value.str _ _]) _ _ _); (rename Fr _ _ _ _ => lF'); (rename News _ _ _ _ => lN'); (with_unfolding_all refine' Mine.escape_spec (Frag.In.keeps (by assumption) lF'.keep) (Top.keeps (by assumption) lF'.keep) ?d ?u (by (first | lia | omega)) (by (first | lia | omega)) ?_); (case d => (dsimp only; (first | lia | omega))); (case u => (dsimp only; (first | lia | omega))); intro t9 h9 tk9 hk9; have F9 := Mine.fr_keep lF' hk9; have N9 := Mine.news_keep lN' hk9; clear lF' lN' hk9))
    (k_with "subscriptTail Name Name str int" => (k_dflt (refine' Mine.item_pos (by assumption) (by assumption) (by assumption) (by assumption) (by assumption) ?_; k_whole)))
    (k_with "compareOp NotEq str str" => (first | (refine' Mine.ne_lit (b := true) (by first | exact Mine.one_eq Mine.lit_close rfl) ?_; k_whole) | (refine' Mine.ne_lit (b := false) (by first | exact Mine.one_ne Mine.lit_close (by (first | lia | omega))) ?_; k_whole)))
    (k_with "exec While BoolOp cons nil" => (k_dflt (refine whl_start 100 ?_)))
    (k_with "compareOp Lt int int" => first | (refine Mine.lt_yes (by assumption) ?_; k_whole) | (refine Mine.lt_no (by assumption) ?_; k_whole))
    (k_with "compareOp GtE int int" => (refine Mine.ge_no (by (first | lia | omega)) ?_; k_whole))
end Mine
end
section
namespace Mine
theorem star0_turn {w : World} {dp un : Nat} {fr : Option (List Env)} {gd : Option (List Code)} {p : Program} {loose : List Str} {mean : ExcName → Option Value} {mg mb : Str → Option Value} {s : Shared} {g : Heap} {L l q : Addr}
    {P : Str} {tp ti tn : Tok} {k : Int} {n : Nat} {rest : List Nat} {ps : Array Value} {st : Addr} {v2 v7 v8 v9 v10 v11 v12 : Option Value} {Q : Flow → Shared → Prop}
    (X : (hd.heap_39 w.params).In g) (T : Top p loose mean mg mb g) (hdp : dp + 10 < recursionLimit) (hun : un + 60 < cLine)
    (F : Fr g L s.heap (tm (some (.str P tp)) (some (.ref st)) v2 (some (.ref l)) (some (.ref q)) (some (.int k ti)) (some (.int n tn)) v7 v8 v9 v10 v11 v12))
    (N : News g L s.heap [(q, bmObj l), (l, listOf #[] 0), (64, tabObj ps)]) (hl : 64 < l ∧ l < q)
    (hc : P.cps.toList.drop k.toNat = 42 :: rest) (hk0 : 0 ≤ k) (hk1 : k < n) (hP : P.cps.size = n) (hn : n ≤ 100)
    (hret : ∀ h' tk' t2 t3, Fr g L h' (tm (some (.str P tp)) (some (.ref st)) v2 (some (.ref l)) (some (.ref q)) (some (.int (k + 1) t2)) (some (.int n tn)) (some (.str ⟨#[42]⟩ t3)) v8 v9 v10 v11 v12) →
      News g L h' [(q, bmObj l), (l, listOf #[.ref st] 1), (64, tabObj ps)] → Q .next { s with heap := h', toks := tk' }) :
    wpAny (model PySem.Challenge.rw_in0246_01.row.prog w) ((⟨none, dp, fr, gd, un⟩ : Around).deeper (envOf (Str.ofString "_translate") trScope L 69 (.ref 68))) (execs trLoop (envOf (Str.ofString "_translate") trScope L 69 (.ref 68))) Q (fun _ _ => False) s := by
  obtain ⟨hl1, hl2⟩ := hl
  k_lt2 hl1
  k_lt2 hl2
  revert X
  k_with_none
  k_fill
  (k_with "exec For Name Subscript cons nil" => (k_here; (rename Fr _ _ _ _ => lF'); (with_unfolding_all refine' For_invVF lF' ?k1 ?k2 ?_; (case k1 => exact rfl); (case k2 => exact rfl); k_whole)))
  (k_with "execs cons" => (first | (k_here; k_gentoks) | ((with_reducible refine Mine.execs_nx ?_); (try dsimp only))))
  (k_with "WhlPost" => dsimp only [Mine.Nx])
  (k_with "KswPost" => dsimp only [Mine.Nx])
  (k_with "InvPostN" => dsimp only [Mine.Nx])
  (k_with "UnrPost" => dsimp only [Mine.Nx])
  (k_with "storeName" => dsimp only)
  (k_with "getAttr ref" => (k_here; k_dflt (refine' Mine.bm_make ?k1 ?k2 ?k3 ?_; (case k1 => k_asm); (case k2 => k_asm); (case k3 => k_mem); k_whole); intro q' h' F' N' l1; (try k_lt l1); (try k_sweep)))
  (k_with "callWith ref" => (k_here; k_dflt (refine' Mine.bm_with ?k1 ?k2 ?_; (case k1 => k_asm); (case k2 => k_mem); k_whole)))
  (k_with "And" => ((with_reducible show Mine.BmAt _ _ _ ∧ _); k_dflt (refine ⟨News.get (by k_asm) (by k_mem), ?_⟩); (try dsimp only [List.nil_append, List.cons_append])))
  (k_with "call ref" => (k_here; (with_reducible show wpAny _ _ (call (Value.ref _) [_]) _ _ _); k_dflt (refine' Mine.bm_append ?k1 ?k2 ?k3 ?k4 ?_ ?z; (case k1 => k_asm); (case k2 => k_asm); (case k3 => k_mem); (case k4 => k_upd); (case z => first | size_fits | (rw [PySem.sizeLine_eq]; (first | lia | omega))); k_whole); intro h' F' N'; (try k_sweep)))
  (k_with "compareOp Eq str str" => (first | (refine' Mine.eq_lit (b := true) (by first | exact Mine.one_eq Mine.lit_star rfl | exact Mine.one_eq Mine.lit_quest rfl | exact Mine.one_eq Mine.lit_open rfl | exact Mine.one_eq Mine.lit_bang rfl | exact Mine.one_eq Mine.lit_close rfl) ?_; k_whole) | (refine' Mine.eq_lit (b := false) (by first | exact Mine.one_ne Mine.lit_star (by (first | lia | omega)) | exact Mine.one_ne Mine.lit_quest (by (first | lia | omega)) | exact Mine.one_ne Mine.lit_open (by (first | lia | omega)) | exact Mine.one_ne Mine.lit_bang (by (first | lia | omega)) | exact Mine.one_ne Mine.lit_close (by (first | lia | omega))) ?_; k_whole)))
  (k_with "call ref" => ((with_reducible show wpAny _ _ (call (Value.ref 62) [Value.str _ _]) _ _ _); (rename Fr _ _ _ _ => lF'); (rename News _ _ _ _ => lN'); (with_unfolding_all refine' Mine.escape_spec (Frag.In.keeps (by assumption) lF'.keep) (Top.keeps (by assumption) lF'.keep) ?d ?u (by (first | lia | omega)) (by (first | lia | omega)) ?_); (case d => (dsimp only; (first | lia | omega))); (case u => (dsimp only; (first | lia | omega))); intro t9 h9 tk9 hk9; have F9 := Mine.fr_keep lF' hk9; have N9 := Mine.news_keep lN' hk9; clear lF' lN' hk9))
  (k_with "subscriptTail Name Name str int" => (k_dflt (refine' Mine.item_pos (by assumption) (by assumption) (by assumption) (by assumption) (by assumption) ?_; k_whole)))
  intro X
  conv in (execs trLoop _) =>
    arg 1
    whnf
  conv in (occs := *) (envOf _ trScope _ _ _) =>
    all_goals (arg 2; whnf)
  (try k_fold)
  k_with_none
  (k_with "exec For Name Subscript cons nil" => (k_here; (rename Fr _ _ _ _ => lF'); (with_unfolding_all refine' For_invVF lF' ?k1 ?k2 ?_; (case k1 => exact rfl); (case k2 => exact rfl); k_whole)))
  (k_with "execs cons" => (first | (k_here; k_gentoks) | ((with_reducible refine Mine.execs_nx ?_); (try dsimp only))))
  (k_with "WhlPost" => dsimp only [Mine.Nx])
  (k_with "KswPost" => dsimp only [Mine.Nx])
  (k_with "InvPostN" => dsimp only [Mine.Nx])
  (k_with "UnrPost" => dsimp only [Mine.Nx])
  (k_with "storeName" => dsimp only)
  (k_with "getAttr ref" => (k_here; k_dflt (refine' Mine.bm_make ?k1 ?k2 ?k3 ?_; (case k1 => k_asm); (case k2 => k_asm); (case k3 => k_mem); k_whole); intro q' h' F' N' l1; (try k_lt l1); (try k_sweep)))
  (k_with "callWith ref" => (k_here; k_dflt (refine' Mine.bm_with ?k1 ?k2 ?_; (case k1 => k_asm); (case k2 => k_mem); k_whole)))
  (k_with "And" => ((with_reducible show Mine.BmAt _ _ _ ∧ _); k_dflt (refine ⟨News.get (by k_asm) (by k_mem), ?_⟩); (try dsimp only [List.nil_append, List.cons_append])))
  (k_with "call ref" => (k_here; (with_reducible show wpAny _ _ (call (Value.ref _) [_]) _ _ _); k_dflt (refine' Mine.bm_append ?k1 ?k2 ?k3 ?k4 ?_ ?z; (case k1 => k_asm); (case k2 => k_asm); (case k3 => k_mem); (case k4 => k_upd); (case z => first | size_fits | (rw [PySem.sizeLine_eq]; (first | lia | omega))); k_whole); intro h' F' N'; (try k_sweep)))
  (k_with "compareOp Eq str str" => (first | (refine' Mine.eq_lit (b := true) (by first | exact Mine.one_eq Mine.lit_star rfl | exact Mine.one_eq Mine.lit_quest rfl | exact Mine.one_eq Mine.lit_open rfl | exact Mine.one_eq Mine.lit_bang rfl | exact Mine.one_eq Mine.lit_close rfl) ?_; k_whole) | (refine' Mine.eq_lit (b := false) (by first | exact Mine.one_ne Mine.lit_star (by (first | lia | omega)) | exact Mine.one_ne Mine.lit_quest (by (first | lia | omega)) | exact Mine.one_ne Mine.lit_open (by (first | lia | omega)) | exact Mine.one_ne Mine.lit_bang (by (first | lia | omega)) | exact Mine.one_ne Mine.lit_close (by (first | lia | omega))) ?_; k_whole)))
  (k_with "call ref" => ((with_reducible show wpAny _ _ (call (Value.ref 62) [Value.str _ _]) _ _ _); (rename Fr _ _ _ _ => lF'); (rename News _ _ _ _ => lN'); (with_unfolding_all refine' Mine.escape_spec (Frag.In.keeps (by assumption) lF'.keep) (Top.keeps (by assumption) lF'.keep) ?d ?u (by (first | lia | omega)) (by (first | lia | omega)) ?_); (case d => (dsimp only; (first | lia | omega))); (case u => (dsimp only; (first | lia | omega))); intro t9 h9 tk9 hk9; have F9 := Mine.fr_keep lF' hk9; have N9 := Mine.news_keep lN' hk9; clear lF' lN' hk9))
  (k_with "subscriptTail Name Name str int" => (k_dflt (refine' Mine.item_pos (by assumption) (by assumption) (by assumption) (by assumption) (by assumption) ?_; k_whole)))
  k_steps
  rename Fr _ _ _ _ => F'
  rename News _ _ _ _ => N'
  exact hret _ _ _ _ (fr_tm F' rfl rfl rfl rfl rfl rfl rfl rfl rfl rfl rfl rfl rfl (by (intros; repeat (first | (apply Mine.tmn <;> assumption) | refine Mine.ifn (by assumption) ?_)))) N'
theorem star_turn {w : World} {dp un : Nat} {fr : Option (List Env)} {gd : Option (List Code)} {p : Program} {loose : List Str} {mean : ExcName → Option Value} {mg mb : Str → Option Value} {s : Shared} {g : Heap} {L l q : Addr}
    {P : Str} {tp ti tn : Tok} {k : Int} {n cnt : Nat} {rest : List Nat} {ps : Array Value} {pre : List Value} {st : Addr} {z : Str} {tz : Tok} {v2 v7 v8 v9 v10 v11 v12 : Option Value} {Q : Flow → Shared → Prop}
    (X : (hd.heap_39 w.params).In g) (T : Top p loose mean mg mb g) (hdp : dp + 10 < recursionLimit) (hun : un + 60 < cLine)
    (F : Fr g L s.heap (tm (some (.str P tp)) (some (.ref st)) v2 (some (.ref l)) (some (.ref q)) (some (.int k ti)) (some (.int n tn)) v7 v8 v9 v10 v11 v12))
    (N : News g L s.heap [(q, bmObj l), (l, listOf ((pre ++ [Value.str z tz]).toArray) cnt), (64, tabObj ps)]) (hl : 64 < l ∧ l < q)
    (hc : P.cps.toList.drop k.toNat = 42 :: rest) (hk0 : 0 ≤ k) (hk1 : k < n) (hP : P.cps.size = n) (hn : n ≤ 100) (hits : pre.length ≤ 100)
    (hret : ∀ h' tk' t2 t3, Fr g L h' (tm (some (.str P tp)) (some (.ref st)) v2 (some (.ref l)) (some (.ref q)) (some (.int (k + 1) t2)) (some (.int n tn)) (some (.str ⟨#[42]⟩ t3)) v8 v9 v10 v11 v12) →
      News g L h' [(q, bmObj l), (l, listOf (((pre ++ [Value.str z tz]).toArray).push (.ref st)) (cnt + 1)), (64, tabObj ps)] → Q .next { s with heap := h', toks := tk' }) :
    wpAny (model PySem.Challenge.rw_in0246_01.row.prog w) ((⟨none, dp, fr, gd, un⟩ : Around).deeper (envOf (Str.ofString "_translate") trScope L 69 (.ref 68))) (execs trLoop (envOf (Str.ofString "_translate") trScope L 69 (.ref 68))) Q (fun _ _ => False) s := by
  obtain ⟨hl1, hl2⟩ := hl
  k_lt2 hl1
  k_lt2 hl2
  revert X
  k_with_none
  k_fill
  (k_with "exec For Name Subscript cons nil" => (k_here; (rename Fr _ _ _ _ => lF'); (with_unfolding_all refine' For_invVF lF' ?k1 ?k2 ?_; (case k1 => exact rfl); (case k2 => exact rfl); k_whole)))
  (k_with "execs cons" => (first | (k_here; k_gentoks) | ((with_reducible refine Mine.execs_nx ?_); (try dsimp only))))
  (k_with "WhlPost" => dsimp only [Mine.Nx])
  (k_with "KswPost" => dsimp only [Mine.Nx])
  (k_with "InvPostN" => dsimp only [Mine.Nx])
  (k_with "UnrPost" => dsimp only [Mine.Nx])
  (k_with "storeName" => dsimp only)
  (k_with "getAttr ref" => (k_here; k_dflt (refine' Mine.bm_make ?k1 ?k2 ?k3 ?_; (case k1 => k_asm); (case k2 => k_asm); (case k3 => k_mem); k_whole); intro q' h' F' N' l1; (try k_lt l1); (try k_sweep)))
  (k_with "callWith ref" => (k_here; k_dflt (refine' Mine.bm_with ?k1 ?k2 ?_; (case k1 => k_asm); (case k2 => k_mem); k_whole)))
  (k_with "And" => ((with_reducible show Mine.BmAt _ _ _ ∧ _); k_dflt (refine ⟨News.get (by k_asm) (by k_mem), ?_⟩); (try dsimp only [List.nil_append, List.cons_append])))
  (k_with "call ref" => (k_here; (with_reducible show wpAny _ _ (call (Value.ref _) [_]) _ _ _); k_dflt (refine' Mine.bm_append ?k1 ?k2 ?k3 ?k4 ?_ ?z; (case k1 => k_asm); (case k2 => k_asm); (case k3 => k_mem); (case k4 => k_upd); (case z => first | size_fits | (rw [PySem.sizeLine_eq]; (first | lia | omega))); k_whole); intro h' F' N'; (try k_sweep)))
  (k_with "compareOp Eq str str" => (first | (refine' Mine.eq_lit (b := true) (by first | exact Mine.one_eq Mine.lit_star rfl | exact Mine.one_eq Mine.lit_quest rfl | exact Mine.one_eq Mine.lit_open rfl | exact Mine.one_eq Mine.lit_bang rfl | exact Mine.one_eq Mine.lit_close rfl) ?_; k_whole) | (refine' Mine.eq_lit (b := false) (by first | exact Mine.one_ne Mine.lit_star (by (first | lia | omega)) | exact Mine.one_ne Mine.lit_quest (by (first | lia | omega)) | exact Mine.one_ne Mine.lit_open (by (first | lia | omega)) | exact Mine.one_ne Mine.lit_bang (by (first | lia | omega)) | exact Mine.one_ne Mine.lit_close (by (first | lia | omega))) ?_; k_whole)))
  (k_with "call ref" => ((with_reducible show wpAny _ _ (call (Value.ref 62) [Value.str _ _]) _ _ _); (rename Fr _ _ _ _ => lF'); (rename News _ _ _ _ => lN'); (with_unfolding_all refine' Mine.escape_spec (Frag.In.keeps (by assumption) lF'.keep) (Top.keeps (by assumption) lF'.keep) ?d ?u (by (first | lia | omega)) (by (first | lia | omega)) ?_); (case d => (dsimp only; (first | lia | omega))); (case u => (dsimp only; (first | lia | omega))); intro t9 h9 tk9 hk9; have F9 := Mine.fr_keep lF' hk9; have N9 := Mine.news_keep lN' hk9; clear lF' lN' hk9))
  (k_with "subscriptTail Name Name str int" => (k_dflt (refine' Mine.item_pos (by assumption) (by assumption) (by assumption) (by assumption) (by assumption) ?_; k_whole)))
  intro X
  conv in (execs trLoop _) =>
    arg 1
    whnf
  conv in (occs := *) (envOf _ trScope _ _ _) =>
    all_goals (arg 2; whnf)
  (try k_fold)
  k_with_none
  (k_with "exec For Name Subscript cons nil" => (k_here; (rename Fr _ _ _ _ => lF'); (with_unfolding_all refine' For_invVF lF' ?k1 ?k2 ?_; (case k1 => exact rfl); (case k2 => exact rfl); k_whole)))
  (k_with "execs cons" => (first | (k_here; k_gentoks) | ((with_reducible refine Mine.execs_nx ?_); (try dsimp only))))
  (k_with "WhlPost" => dsimp only [Mine.Nx])
  (k_with "KswPost" => dsimp only [Mine.Nx])
  (k_with "InvPostN" => dsimp only [Mine.Nx])
  (k_with "UnrPost" => dsimp only [Mine.Nx])
  (k_with "storeName" => dsimp only)
  (k_with "getAttr ref" => (k_here; k_dflt (refine' Mine.bm_make ?k1 ?k2 ?k3 ?_; (case k1 => k_asm); (case k2 => k_asm); (case k3 => k_mem); k_whole); intro q' h' F' N' l1; (try k_lt l1); (try k_sweep)))
  (k_with "callWith ref" => (k_here; k_dflt (refine' Mine.bm_with ?k1 ?k2 ?_; (case k1 => k_asm); (case k2 => k_mem); k_whole)))
  (k_with "And" => ((with_reducible show Mine.BmAt _ _ _ ∧ _); k_dflt (refine ⟨News.get (by k_asm) (by k_mem), ?_⟩); (try dsimp only [List.nil_append, List.cons_append])))
  (k_with "call ref" => (k_here; (with_reducible show wpAny _ _ (call (Value.ref _) [_]) _ _ _); k_dflt (refine' Mine.bm_append ?k1 ?k2 ?k3 ?k4 ?_ ?z; (case k1 => k_asm); (case k2 => k_asm); (case k3 => k_mem); (case k4 => k_upd); (case z => first | size_fits | (rw [PySem.sizeLine_eq]; (first | lia | omega))); k_whole); intro h' F' N'; (try k_sweep)))
  (k_with "compareOp Eq str str" => (first | (refine' Mine.eq_lit (b := true) (by first | exact Mine.one_eq Mine.lit_star rfl | exact Mine.one_eq Mine.lit_quest rfl | exact Mine.one_eq Mine.lit_open rfl | exact Mine.one_eq Mine.lit_bang rfl | exact Mine.one_eq Mine.lit_close rfl) ?_; k_whole) | (refine' Mine.eq_lit (b := false) (by first | exact Mine.one_ne Mine.lit_star (by (first | lia | omega)) | exact Mine.one_ne Mine.lit_quest (by (first | lia | omega)) | exact Mine.one_ne Mine.lit_open (by (first | lia | omega)) | exact Mine.one_ne Mine.lit_bang (by (first | lia | omega)) | exact Mine.one_ne Mine.lit_close (by (first | lia | omega))) ?_; k_whole)))
  (k_with "call ref" => ((with_reducible show wpAny _ _ (call (Value.ref 62) [Value.str _ _]) _ _ _); (rename Fr _ _ _ _ => lF'); (rename News _ _ _ _ => lN'); (with_unfolding_all refine' Mine.escape_spec (Frag.In.keeps (by assumption) lF'.keep) (Top.keeps (by assumption) lF'.keep) ?d ?u (by (first | lia | omega)) (by (first | lia | omega)) ?_); (case d => (dsimp only; (first | lia | omega))); (case u => (dsimp only; (first | lia | omega))); intro t9 h9 tk9 hk9; have F9 := Mine.fr_keep lF' hk9; have N9 := Mine.news_keep lN' hk9; clear lF' lN' hk9))
  (k_with "subscriptTail Name Name str int" => (k_dflt (refine' Mine.item_pos (by assumption) (by assumption) (by assumption) (by assumption) (by assumption) ?_; k_whole)))
  have hlen : (pre ++ [Value.str z tz]).length = pre.length + 1 := by simp
  have hsz2 : (pre ++ [Value.str z tz]).toArray.size ≤ 101 := by rw [List.size_toArray, hlen]; (first | lia | omega)
  have hemp : (!(pre ++ [Value.str z tz]).toArray.isEmpty) = true := by
    cases pre <;> rfl
  have hidx : seqIndex? (-1) (pre ++ [Value.str z tz]).length = some pre.length := by
    rw [hlen]
    unfold seqIndex?
    dsimp only
    have e1 : (if (-1 : Int) < 0 then -1 + ((pre.length + 1 : Nat) : Int) else -1) = (pre.length : Int) := by rw [if_pos (by decide)]; (first | lia | omega)
    rw [e1, if_pos (by simp; (first | lia | omega))]
    rfl
  have hlast : (pre ++ [Value.str z tz])[pre.length]? = some (Value.str z tz) := by simp
  (k_with "truthy ref" => refine wpAny_truthy_list (News.isList (by assumption) (.tail _ (.head _))) (by (first | lia | omega)) ?_; rw [hemp])
  (k_with "subscriptTail Name UnaryOp ref int" => refine kde_neg (News.isList (by assumption) (.tail _ (.head _))) (by decide) (by decide) hidx hlast ?_)
  (k_with "compareOp IsNot str ref" => refine wpAny_isNot_other rfl (by intro e; cases e) ?_)
  k_steps
  rename Fr _ _ _ _ => F'
  rename News _ _ _ _ => N'
  exact hret _ _ _ _ (fr_tm F' rfl rfl rfl rfl rfl rfl rfl rfl rfl rfl rfl rfl rfl (by (intros; repeat (first | (apply Mine.tmn <;> assumption) | refine Mine.ifn (by assumption) ?_)))) N'
end Mine
end
section
namespace Mine
theorem addr_ne {a b : Nat} (h : b < a) : @Ne Addr a b := fun e => by have e' : a = b := e; (first | lia | omega)
theorem look3 {z a b c : Str} {va vb vc : Value} (ha : z ≠ a) (hb : z ≠ b) (hc : z ≠ c) : List.lookup z [(a, va), (b, vb), (c, vc)] = none := by
  rw [List.lookup_cons, beq_eq_false_iff_ne.mpr ha, List.lookup_cons, beq_eq_false_iff_ne.mpr hb, List.lookup_cons, beq_eq_false_iff_ne.mpr hc]
  rfl
theorem transl2_spec {w : World} {dp un : Nat} {fr : Option (List Env)} {gd : Option (List Code)} {p : Program} {loose : List Str} {mean : ExcName → Option Value} {mg mb : Str → Option Value} {s : Shared} {st : Addr} {x y : Nat} {tx tq : Tok} {ps : Array Value} {Q E : Value → Shared → Prop} :
   (hd.heap_39 w.params).In (s.heap.hide 64) → Top p loose mean mg mb (s.heap.hide 64) → dp + 20 < recursionLimit → un + 80 < cLine →
   CodeHd (s.heap.hide 64) 68 64 → s.heap.get? 64 = some (tabObj ps) → Tb ps → AllBare s.gens →
   66 ≤ x → x ≤ 76 → 66 ≤ y → y ≤ 76 →
   (∀ (r : Addr) t0 t1 n' ps' h' g' tk', (∀ b o, (s.heap.hide 64).get? b = some o → h'.get? b = some o) → h'.get? 64 = some (tabObj ps') → Tb ps' → AllBare g' → (s.heap.hide 64).get? r = none → r ≠ 64 → h'.get? r = some (listOf #[.ref st, .str ⟨#[x]⟩ t0, .str (brText x y) t1, .ref st] n') → Q (.ref r) { s with heap := h', gens := g', toks := tk' }) →
   wpAny (model PySem.Challenge.rw_in0246_01.row.prog w) ⟨none, dp, fr, gd, un⟩ (call (.ref 69) [.str ⟨#[42, x, 91, y, 45, x, 93, 42]⟩ tx, .ref st, .str "." tq]) Q E s := by
  k_with_none
  k_fill
  (k_with "exec For Name Subscript cons nil" => (k_here; (rename Fr _ _ _ _ => lF'); (with_unfolding_all refine' For_invVF lF' ?k1 ?k2 ?_; (case k1 => exact rfl); (case k2 => exact rfl); k_whole)))
  (k_with "execs cons" => (first | (k_here; k_gentoks) | ((with_reducible refine Mine.execs_nx ?_); (try dsimp only))))
  (k_with "WhlPost" => dsimp only [Mine.Nx])
  (k_with "KswPost" => dsimp only [Mine.Nx])
  (k_with "InvPostN" => dsimp only [Mine.Nx])
  (k_with "UnrPost" => dsimp only [Mine.Nx])
  (k_with "storeName" => dsimp only)
  (k_with "getAttr ref" => (k_here; k_dflt (refine' Mine.bm_make ?k1 ?k2 ?k3 ?_; (case k1 => k_asm); (case k2 => k_asm); (case k3 => k_mem); k_whole); intro q' h' F' N' l1; (try k_lt l1); (try k_sweep)))
  (k_with "call builtin:len" => ((with_reducible show wpAny _ _ (call (Value.builtin "len") [Value.str _ _]) _ _ _); k_dflt (refine' Mine.len_lit (n := 8) rfl ?_ (by decide); k_whole)))
  (k_with "execs cons" => ((with_reducible refine Mine.at_asn "c" ?_); k_dflt (refine Mine.at_loop ?_)))
  intro X T hdp hun C htab hps hbare hx0 hx1 hy0 hy1 hret
  k_dflt ((refine' Mine.enter (by assumption) (by assumption) ?ck ?cs ?ho ?hcd ?hroom ?hbind ?hloc ?c2 ?c3 ?c4 ?c5 ?_; (case ho => k_is); (case hcd => k_is); (case hbind => exact BindsTo.of_eq rfl); (case hloc => exact locs rfl); (case c2 => exact rfl); (case c3 => exact rfl); (case c4 => exact rfl); (case c5 => decide)))
  case ck => exact fun _ _ e => Heap.of_hide e
  case cs => exact Nat.le_of_eq (Heap.hide_size _ _)
  case hroom => exact Mine.rm (j := 0) hdp rfl
  intro L h₁ hL F hk
  have N := hide_news htab hk hL
  clear hL hk
  (try dsimp only)
  (try k_fold)
  k_steps
  refine unhold ?_
  rename Fr _ _ _ _ => F'
  rename News _ _ _ _ => N'
  have F0 : Fr (s.heap.hide 64) L _ (tm (some (.str ⟨#[42, x, 91, y, 45, x, 93, 42]⟩ tx)) (some (.ref st)) (some (.str (Str.ofString ".") tq)) (some (.ref _)) (some (.ref _)) (some (.int 0 _)) (some (.int 8 _)) none none none none none none) :=
    fr_tm F' rfl rfl rfl rfl rfl rfl rfl rfl rfl rfl rfl rfl rfl (by intro z a0 a1 a2 a3 a4 a5 a6 a7 a8 a9 a10 a11 a12; simp only [a3, a4, a5, a6, if_false]; first | exact look3 a2 a1 a0 | exact look3 a0 a1 a2)
  have N0 := fun z hz => N' z (List.Mem.tail _ hz)
  clear F' N'
  have hroom1 : dp + 10 < recursionLimit := by (first | lia | omega)
  have hroom2 : un + 60 < cLine := by (first | lia | omega)
  refine star0_turn (s := ⟨_, _, _, _, _⟩) (k := 0) (n := 8) X T hroom1 hroom2 F0 N0 ⟨addr_lt (by (first | lia | omega)), addr_lt (by (first | lia | omega))⟩ rfl (by decide) (by decide) rfl (by decide) ?_
  intro h1 tk1 u1 u1' F1 N1
  clear F0 N0
  k_steps
  refine unhold ?_
  refine letter_turn (s := ⟨_, _, _, _, _⟩) (k := 1) (n := 8) (ch := x) X T hroom1 hroom2 F1 N1 ⟨addr_lt (by (first | lia | omega)), addr_lt (by (first | lia | omega))⟩ rfl (by decide) (by decide) rfl (by decide) hx0 hx1 (Nat.le_of_ble_eq_true rfl) ?_
  intro h2 tk2 t0 u2 u2' F2 N2
  clear F1 N1
  k_steps
  refine unhold ?_
  refine br_turn (s := ⟨_, _, _, _, _⟩) (k := 2) (n := 8) (x := x) (y := y) X T hroom1 hroom2 F2 N2 ⟨addr_lt (by (first | lia | omega)), addr_lt (by (first | lia | omega))⟩ rfl rfl rfl rfl rfl (by decide) (by decide) rfl (by decide) hx0 hx1 hy0 hy1 (Nat.le_of_ble_eq_true rfl)
    (by with_unfolding_all rfl) (by with_unfolding_all rfl) (by with_unfolding_all rfl) (find2a hx0 hx1 hy0 hy1) (find2b hx0 hx1 hy0 hy1) C hbare hps ?_
  intro ps4 hb4 g4 tkb t1 ub w7 w8 w9 w10 w11 w12 hps4 hbr4 Fb Nb
  clear F2 N2
  k_steps
  refine unhold ?_
  refine star_turn (s := ⟨_, _, _, _, _⟩) (k := 7) (n := 8) (pre := [Value.ref st, Value.str ⟨#[x]⟩ t0]) (z := brText x y) (tz := t1) X T hroom1 hroom2 Fb Nb ⟨addr_lt (by (first | lia | omega)), addr_lt (by (first | lia | omega))⟩ rfl (by decide) (by decide) rfl (by decide) (Nat.le_of_ble_eq_true rfl) ?_
  intro h9 tk9 u9 u9' F9 N9
  clear Fb Nb
  k_steps
  rename Fr _ _ _ _ => F'
  rename News _ _ _ _ => N'
  exact hret _ _ _ _ _ _ _ _ F'.keep (News.get N' (.tail _ (.tail _ (.head _)))) hps4 hbr4 (N' _ (.tail _ (.head _))).2.2 (addr_ne (by (first | lia | omega))) (News.get N' (.tail _ (.head _)))
end Mine
end
section
namespace Mine
theorem letters3 {P : Nat → Nat → Nat → Prop} (h : ∀ a b c : Fin 11, P (66 + a.val) (66 + b.val) (66 + c.val)) {x y z : Nat} (hx0 : 66 ≤ x) (hx : x ≤ 76) (hy0 : 66 ≤ y) (hy : y ≤ 76) (hz0 : 66 ≤ z) (hz : z ≤ 76) : P x y z := by
  have := h ⟨x - 66, by (first | lia | omega)⟩ ⟨y - 66, by (first | lia | omega)⟩ ⟨z - 66, by (first | lia | omega)⟩
  dsimp only at this
  rwa [show 66 + (x - 66) = x by (first | lia | omega), show 66 + (y - 66) = y by (first | lia | omega), show 66 + (z - 66) = z by (first | lia | omega)] at this
theorem find3a {x y z : Nat} (hx0 : 66 ≤ x) (hx : x ≤ 76) (hy0 : 66 ≤ y) (hy : y ≤ 76) (hz0 : 66 ≤ z) (hz : z ≤ 76) : findB ⟨#[42, x, y, 91, z, 45, x, 93, 42]⟩ (Str.ofString "-") 5 7 = 5 :=
  letters3 (P := fun x y z => findB ⟨#[42, x, y, 91, z, 45, x, 93, 42]⟩ (Str.ofString "-") 5 7 = 5) (by decide +kernel) hx0 hx hy0 hy hz0 hz
theorem find3b {x y z : Nat} (hx0 : 66 ≤ x) (hx : x ≤ 76) (hy0 : 66 ≤ y) (hy : y ≤ 76) (hz0 : 66 ≤ z) (hz : z ≤ 76) : findB ⟨#[42, x, y, 91, z, 45, x, 93, 42]⟩ (Str.ofString "-") 8 7 = -1 :=
  letters3 (P := fun x y z => findB ⟨#[42, x, y, 91, z, 45, x, 93, 42]⟩ (Str.ofString "-") 8 7 = -1) (by decide +kernel) hx0 hx hy0 hy hz0 hz
theorem transl3_spec {w : World} {dp un : Nat} {fr : Option (List Env)} {gd : Option (List Code)} {p : Program} {loose : List Str} {mean : ExcName → Option Value} {mg mb : Str → Option Value} {s : Shared} {st : Addr} {x y z : Nat} {tx tq : Tok} {ps : Array Value} {Q E : Value → Shared → Prop} :
   (hd.heap_39 w.params).In (s.heap.hide 64) → Top p loose mean mg mb (s.heap.hide 64) → dp + 20 < recursionLimit → un + 80 < cLine →
   CodeHd (s.heap.hide 64) 68 64 → s.heap.get? 64 = some (tabObj ps) → Tb ps → AllBare s.gens →
   66 ≤ x → x ≤ 76 → 66 ≤ y → y ≤ 76 → 66 ≤ z → z ≤ 76 →
   (∀ (r : Addr) t0 t1 t2 n' ps' h' g' tk', (∀ b o, (s.heap.hide 64).get? b = some o → h'.get? b = some o) → h'.get? 64 = some (tabObj ps') → Tb ps' → AllBare g' → (s.heap.hide 64).get? r = none → r ≠ 64 → h'.get? r = some (listOf #[.ref st, .str ⟨#[x]⟩ t0, .str ⟨#[y]⟩ t1, .str (brText x z) t2, .ref st] n') → Q (.ref r) { s with heap := h', gens := g', toks := tk' }) →
   wpAny (model PySem.Challenge.rw_in0246_01.row.prog w) ⟨none, dp, fr, gd, un⟩ (call (.ref 69) [.str ⟨#[42, x, y, 91, z, 45, x, 93, 42]⟩ tx, .ref st, .str "." tq]) Q E s := by
  k_with_none
  k_fill
  (k_with "exec For Name Subscript cons nil" => (k_here; (rename Fr _ _ _ _ => lF'); (with_unfolding_all refine' For_invVF lF' ?k1 ?k2 ?_; (case k1 => exact rfl); (case k2 => exact rfl); k_whole)))
  (k_with "execs cons" => (first | (k_here; k_gentoks) | ((with_reducible refine Mine.execs_nx ?_); (try dsimp only))))
  (k_with "WhlPost" => dsimp only [Mine.Nx])
  (k_with "KswPost" => dsimp only [Mine.Nx])
  (k_with "InvPostN" => dsimp only [Mine.Nx])
  (k_with "UnrPost" => dsimp only [Mine.Nx])
  (k_with "storeName" => dsimp only)
  (k_with "getAttr ref" => (k_here; k_dflt (refine' Mine.bm_make ?k1 ?k2 ?k3 ?_; (case k1 => k_asm); (case k2 => k_asm); (case k3 => k_mem); k_whole); intro q' h' F' N' l1; (try k_lt l1); (try k_sweep)))
  (k_with "call builtin:len" => ((with_reducible show wpAny _ _ (call (Value.builtin "len") [Value.str _ _]) _ _ _); k_dflt (refine' Mine.len_lit (n := 9) rfl ?_ (by decide); k_whole)))
  (k_with "execs cons" => ((with_reducible refine Mine.at_asn "c" ?_); k_dflt (refine Mine.at_loop ?_)))
  intro X T hdp hun C htab hps hbare hx0 hx1 hy0 hy1 hz0 hz1 hret
  k_dflt ((refine' Mine.enter (by assumption) (by assumption) ?ck ?cs ?ho ?hcd ?hroom ?hbind ?hloc ?c2 ?c3 ?c4 ?c5 ?_; (case ho => k_is); (case hcd => k_is); (case hbind => exact BindsTo.of_eq rfl); (case hloc => exact locs rfl); (case c2 => exact rfl); (case c3 => exact rfl); (case c4 => exact rfl); (case c5 => decide)))
  case ck => exact fun _ _ e => Heap.of_hide e
  case cs => exact Nat.le_of_eq (Heap.hide_size _ _)
  case hroom => exact Mine.rm (j := 0) hdp rfl
  intro L h₁ hL F hk
  have N := hide_news htab hk hL
  clear hL hk
  (try dsimp only)
  (try k_fold)
  k_steps
  refine unhold ?_
  rename Fr _ _ _ _ => F'
  rename News _ _ _ _ => N'
  have F0 : Fr (s.heap.hide 64) L _ (tm (some (.str ⟨#[42, x, y, 91, z, 45, x, 93, 42]⟩ tx)) (some (.ref st)) (some (.str (Str.ofString ".") tq)) (some (.ref _)) (some (.ref _)) (some (.int 0 _)) (some (.int 9 _)) none none none none none none) :=
    fr_tm F' rfl rfl rfl rfl rfl rfl rfl rfl rfl rfl rfl rfl rfl (by intro z a0 a1 a2 a3 a4 a5 a6 a7 a8 a9 a10 a11 a12; simp only [a3, a4, a5, a6, if_false]; first | exact look3 a2 a1 a0 | exact look3 a0 a1 a2)
  have N0 := fun z hz => N' z (List.Mem.tail _ hz)
  clear F' N'
  have hroom1 : dp + 10 < recursionLimit := by (first | lia | omega)
  have hroom2 : un + 60 < cLine := by (first | lia | omega)
  refine star0_turn (s := ⟨_, _, _, _, _⟩) (k := 0) (n := 9) X T hroom1 hroom2 F0 N0 ⟨addr_lt (by (first | lia | omega)), addr_lt (by (first | lia | omega))⟩ rfl (by decide) (by decide) rfl (by decide) ?_
  intro h1 tk1 u1 u1' F1 N1
  clear F0 N0
  k_steps
  refine unhold ?_
  refine letter_turn (s := ⟨_, _, _, _, _⟩) (k := 1) (n := 9) (ch := x) X T hroom1 hroom2 F1 N1 ⟨addr_lt (by (first | lia | omega)), addr_lt (by (first | lia | omega))⟩ rfl (by decide) (by decide) rfl (by decide) hx0 hx1 (Nat.le_of_ble_eq_true rfl) ?_
  intro h2 tk2 t0 u2 u2' F2 N2
  clear F1 N1
  k_steps
  refine unhold ?_
  refine letter_turn (s := ⟨_, _, _, _, _⟩) (k := 2) (n := 9) (ch := y) X T hroom1 hroom2 F2 N2 ⟨addr_lt (by (first | lia | omega)), addr_lt (by (first | lia | omega))⟩ rfl (by decide) (by decide) rfl (by decide) hy0 hy1 (Nat.le_of_ble_eq_true rfl) ?_
  intro h3 tk3 t1 u3 u3' F3 N3
  clear F2 N2
  k_steps
  refine unhold ?_
  refine br_turn (s := ⟨_, _, _, _, _⟩) (k := 3) (n := 9) (x := x) (y := z) X T hroom1 hroom2 F3 N3 ⟨addr_lt (by (first | lia | omega)), addr_lt (by (first | lia | omega))⟩ rfl rfl rfl rfl rfl (by decide) (by decide) rfl (by decide) hx0 hx1 hz0 hz1 (Nat.le_of_ble_eq_true rfl)
    (by with_unfolding_all rfl) (by with_unfolding_all rfl) (by with_unfolding_all rfl) (find3a hx0 hx1 hy0 hy1 hz0 hz1) (find3b hx0 hx1 hy0 hy1 hz0 hz1) C hbare hps ?_
  intro ps4 hb4 g4 tkb t2 ub w7 w8 w9 w10 w11 w12 hps4 hbr4 Fb Nb
  clear F3 N3
  k_steps
  refine unhold ?_
  refine star_turn (s := ⟨_, _, _, _, _⟩) (k := 8) (n := 9) (pre := [Value.ref st, Value.str ⟨#[x]⟩ t0, Value.str ⟨#[y]⟩ t1]) (z := brText x z) (tz := t2) X T hroom1 hroom2 Fb Nb ⟨addr_lt (by (first | lia | omega)), addr_lt (by (first | lia | omega))⟩ rfl (by decide) (by decide) rfl (by decide) (Nat.le_of_ble_eq_true rfl) ?_
  intro h9 tk9 u9 u9' F9 N9
  clear Fb Nb
  k_steps
  rename Fr _ _ _ _ => F'
  rename News _ _ _ _ => N'
  exact hret _ _ _ _ _ _ _ _ _ F'.keep (News.get N' (.tail _ (.tail _ (.head _)))) hps4 hbr4 (N' _ (.tail _ (.head _))).2.2 (addr_ne (by (first | lia | omega))) (News.get N' (.tail _ (.head _)))
end Mine
end
section
namespace Mine
open PySem.Calls PySem.Spec
section
variable {prog : Program} {w : World} {A : Around} {E : Value → Shared → Prop} {s : Shared}
theorem len_known {l : Addr} {items : Array Value} {n : Nat} {Q : Value → Shared → Prop} (hl : s.heap.IsList l items) (hn : items.size = n) (hs : n ≤ 100)
    (h : ∀ t k, Q (.int (n : Int) t) { s with toks := k }) : wpAny (model prog w) A (call (.builtin "len") [.ref l]) Q E s := by
  subst hn
  exact PyProof.Rows.len_list hl (by omega) (h _ _)
theorem item_known {value slice : Expr} {l : Addr} {vs : List Value} {k : Int} {u : Tok} {v : Value} {Q : Value → Shared → Prop}
    (hl : s.heap.IsList l vs.toArray) (h0 : 0 ≤ k) (hhi : k < 2 ^ 63) (hx : vs[k.toNat]? = some v) (h : Q v s)
    (hs : subscripted slice false (.ref l) (.int k u) = operate [.ref l, .int k u] (getItem (.ref l) (.int k u)) := by with_unfolding_all rfl) :
    wpAny (model prog w) A (subscriptTail value slice (.ref l) (.int k u)) Q E s :=
  tail_any hl.typeIs slot_list_getitem.lookup (wpAny_getItem_list hl h0 hhi (by simpa using hx) h) hs
end
end Mine
end
section
namespace Mine
/-! _join_translated_parts: a star, letters, a star -/
def jnFn : Stmt := sAt PySem.Challenge.rw_in0246_01.row.prog.main.body 11
def jnScope : Scope := sScope jnFn
def jnW3 : Stmt := sAt (sBody (sAt (sBody jnFn) 4)) 5
def jnTurn : List Stmt := sBody jnW3
def jnTest : PySem.Expr := match jnW3 with | .While t _ _ _ => t | _ => default
section
variable {prog : Program} {w : World} {A : Around} {E : Value → Shared → Prop} {s : Shared}
theorem eq_yes {a b : Int} {t u : Tok} {Q : Value → Shared → Prop} (hab : a = b) (h : Q (.bool true) s) : wpAny (model prog w) A (compareOp .Eq (.int a t) (.int b u)) Q E s :=
  eq_int (by rw [show (a == b) = true from beq_iff_eq.mpr hab]; exact h)
theorem eq_no {a b : Int} {t u : Tok} {Q : Value → Shared → Prop} (hab : a ≠ b) (h : Q (.bool false) s) : wpAny (model prog w) A (compareOp .Eq (.int a t) (.int b u)) Q E s :=
  eq_int (by rw [show (a == b) = false from beq_eq_false_iff_ne.mpr hab]; exact h)
end
/-- the frame of _join_translated_parts -/
def kn (v0 v1 v2 v3 v4 v5 v6 : Option Value) : Str → Option Value := fun z =>
  if z = Str.ofString "inp" then v0 else if z = Str.ofString "STAR" then v1 else if z = Str.ofString "res" then v2 else if z = Str.ofString "add" then v3 else if z = Str.ofString "i" then v4 else if z = Str.ofString "n" then v5 else if z = Str.ofString "fixed" then v6 else none
theorem knn {z : Str} {v0 v1 v2 v3 v4 v5 v6 : Option Value} (a0 : z ≠ Str.ofString "inp") (a1 : z ≠ Str.ofString "STAR") (a2 : z ≠ Str.ofString "res") (a3 : z ≠ Str.ofString "add") (a4 : z ≠ Str.ofString "i") (a5 : z ≠ Str.ofString "n") (a6 : z ≠ Str.ofString "fixed") : kn v0 v1 v2 v3 v4 v5 v6 z = none := by
  unfold kn
  simp only [a0, a1, a2, a3, a4, a5, a6, if_false]
theorem fr_kn {g h : Heap} {L : Addr} {m : Str → Option Value} {v0 v1 v2 v3 v4 v5 v6 : Option Value} (F : Fr g L h m) (h0 : m (Str.ofString "inp") = v0) (h1 : m (Str.ofString "STAR") = v1) (h2 : m (Str.ofString "res") = v2) (h3 : m (Str.ofString "add") = v3) (h4 : m (Str.ofString "i") = v4) (h5 : m (Str.ofString "n") = v5) (h6 : m (Str.ofString "fixed") = v6)
    (hr : ∀ z, z ≠ Str.ofString "inp" → z ≠ Str.ofString "STAR" → z ≠ Str.ofString "res" → z ≠ Str.ofString "add" → z ≠ Str.ofString "i" → z ≠ Str.ofString "n" → z ≠ Str.ofString "fixed" → m z = none) : Fr g L h (kn v0 v1 v2 v3 v4 v5 v6) :=
  fr_to F fun z => look_eq [(Str.ofString "inp", v0), (Str.ofString "STAR", v1), (Str.ofString "res", v2), (Str.ofString "add", v3), (Str.ofString "i", v4), (Str.ofString "n", v5), (Str.ofString "fixed", v6)] (List.forall_mem_cons.mpr ⟨h0, List.forall_mem_cons.mpr ⟨h1, List.forall_mem_cons.mpr ⟨h2, List.forall_mem_cons.mpr ⟨h3, List.forall_mem_cons.mpr ⟨h4, List.forall_mem_cons.mpr ⟨h5, List.forall_mem_cons.mpr ⟨h6, List.forall_mem_nil _⟩⟩⟩⟩⟩⟩⟩) z fun h => hr z (h _ (.head _)) (h _ (.tail _ (.head _))) (h _ (.tail _ (.tail _ (.head _)))) (h _ (.tail _ (.tail _ (.tail _ (.head _))))) (h _ (.tail _ (.tail _ (.tail _ (.tail _ (.head _)))))) (h _ (.tail _ (.tail _ (.tail _ (.tail _ (.tail _ (.head _))))))) (h _ (.tail _ (.tail _ (.tail _ (.tail _ (.tail _ (.tail _ (.head _))))))))
end Mine
namespace Mine
/-- one more text into the list -/
theorem jn_turn {w : World} {dp un : Nat} {fr : Option (List Env)} {gd : Option (List Code)} {p : Program} {loose : List Str} {mean : ExcName → Option Value} {mg mb : Str → Option Value} {s : Shared} {g : Heap} {L r st q fx fa : Addr} {cd : Value}
    {vs : List Value} {i : Int} {m k : Nat} {ti tm : Tok} {v2 : Option Value} {xs : Array Value} {news : List (Addr × Obj)} {Q : Flow → Shared → Prop} {a : Str} {ta : Tok}
    (X : (hd.heap_39 w.params).In g) (T : Top p loose mean mg mb g) (hdp : dp + 10 < recursionLimit) (hun : un + 40 < cLine) (hl : g.IsList r vs.toArray)
    (F : Fr g L s.heap (kn (some (.ref r)) (some (.ref st)) v2 (some (.ref q)) (some (.int i ti)) (some (.int m tm)) (some (.ref fx)))) (N : News g L s.heap ((fx, listOf xs k) :: news)) (hnl : ∀ p ∈ news, p.1 ≠ fx)
    (hi0 : 0 ≤ i) (him : i < m) (hm : m ≤ 50) (hxs : xs.size ≤ 50)
    (hx : vs[i.toNat]? = some (.str a ta))
    (hret : ∀ h' tk' t2 k', Fr g L h' (kn (some (.ref r)) (some (.ref st)) v2 (some (.ref q)) (some (.int (i + 1) t2)) (some (.int m tm)) (some (.ref fx))) → News g L h' ((fx, listOf (xs.push (.str a ta)) k') :: news) → WhlRest PySem.Challenge.rw_in0246_01.row.prog w ((⟨none, dp, fr, gd, un⟩ : Around).deeper (envOf (Str.ofString "_join_translated_parts") jnScope L fa cd)) (fun _ _ => False) (envOf (Str.ofString "_join_translated_parts") jnScope L fa cd) jnTest jnTurn [] Q 0 { s with heap := h', toks := tk' }) :
    WhlRest PySem.Challenge.rw_in0246_01.row.prog w ((⟨none, dp, fr, gd, un⟩ : Around).deeper (envOf (Str.ofString "_join_translated_parts") jnScope L fa cd)) (fun _ _ => False) (envOf (Str.ofString "_join_translated_parts") jnScope L fa cd) jnTest jnTurn [] Q 0 s := by
  revert X
  k_with_none
  k_fill
  (k_with "exec For Name Subscript cons nil" => (k_here; (rename Fr _ _ _ _ => lF'); (with_unfolding_all refine' For_invVF lF' ?k1 ?k2 ?_; (case k1 => exact rfl); (case k2 => exact rfl); k_whole)))
  (k_with "execs cons" => (first | (k_here; k_gentoks) | ((with_reducible refine Mine.execs_nx ?_); (try dsimp only))))
  (k_with "WhlPost" => dsimp only [Mine.Nx])
  (k_with "KswPost" => dsimp only [Mine.Nx])
  (k_with "InvPostN" => dsimp only [Mine.Nx])
  (k_with "UnrPost" => dsimp only [Mine.Nx])
  (k_with "storeName" => dsimp only)
  (k_with "getAttr ref" => (k_here; k_dflt (refine' Mine.bm_make ?k1 ?k2 ?k3 ?_; (case k1 => k_asm); (case k2 => k_asm); (case k3 => k_mem); k_whole); intro q' h' F' N' l1; (try k_lt l1); (try k_sweep)))
  (k_with "callWith ref" => (k_here; k_dflt (refine' Mine.bm_with ?k1 ?k2 ?_; (case k1 => k_asm); (case k2 => k_mem); k_whole)))
  (k_with "And" => ((with_reducible show Mine.BmAt _ _ _ ∧ _); k_dflt (refine ⟨News.get (by k_asm) (by k_mem), ?_⟩); (try dsimp only [List.nil_append, List.cons_append])))
  (k_with "call ref" => (k_here; (with_reducible show wpAny _ _ (call (Value.ref _) [_]) _ _ _); k_dflt (refine' Mine.bm_append ?k1 ?k2 ?k3 ?k4 ?_ ?z; (case k1 => k_asm); (case k2 => k_asm); (case k3 => k_mem); (case k4 => k_upd); (case z => size_fits); k_whole); intro h' F' N'; (try k_sweep)))
  (k_with "compareOp IsNot str ref" => (k_dflt (refine wpAny_isNot_other rfl (by intro e; cases e) ?_)))
  (k_with "compareOp IsNot ref ref" => (k_dflt (refine wpAny_isNot_ref_self ?_)))
  (k_with "compareOp Is ref ref" => (k_dflt (refine wpAny_is_ref_self ?_)))
  (k_with "exec While BoolOp cons nil" => (k_dflt (refine whl_start 0 ?_)))
  (k_with "exec While Compare" => (k_dflt (refine whl_start 0 ?_)))
  (k_with "WhlRest" => refine Mine.hold ?_)
  (k_with "call builtin:len" => (k_here; (with_reducible show wpAny _ _ (call (Value.builtin "len") [Value.ref _]) _ _ _); k_dflt (refine' Mine.len_known ?k1 ?k2 ?k3 ?_; (case k1 => is_list); (case k2 => assumption); (case k3 => (first | lia | omega)); k_whole); intro _ _))
  (k_with "subscriptTail Name Name ref int" => (k_here; k_dflt (refine' Mine.item_known ?k1 ?k2 ?k3 ?k4 ?_ ?k6; (case k1 => is_list); (case k2 => (first | lia | omega)); (case k3 => (first | lia | omega)); (case k4 => assumption); (case k6 => with_unfolding_all rfl); k_whole)))
  (k_with "call builtin:str.join" => refine Mine.hold ?_)
  (k_with "compareOp Lt int int" => first | (refine' Mine.lt_yes (by (first | lia | omega)) ?_; k_whole) | (refine' Mine.lt_no (by (first | lia | omega)) ?_; k_whole))
  (k_with "call builtin:list.append" => (k_here; (with_reducible show wpAny _ _ (call (Value.builtin _) [Value.ref _, _]) _ _ _); k_dflt (refine' append_K ?k1 ?k2 ?k3 ?_ ?z; (case k1 => k_asm); (case k2 => k_asm); (case k3 => exact Upd.head (by assumption)); (case z => (rw [PySem.sizeLine_eq]; (first | lia | omega))); k_whole); intro h' F' N'; (try k_sweep)))
  (k_with "compareOp Eq int int" => first | (refine' Mine.eq_yes (by (first | lia | omega)) ?_; k_whole) | (refine' Mine.eq_no (by (first | lia | omega)) ?_; k_whole))
  intro X
  refine hold ?_
  (refine Mine.unhold ?_; k_dflt (refine' (whl_turn (k := 0) ?hE ?_ : WhlRest _ _ _ _ _ _ _ _ _ (0 + 1) _); (case hE => first | passes_own | with_unfolding_all passes_own)); (try k_sweep))
  conv in (isTrue jnTest _ _) =>
    arg 1
    whnf
  conv in (eval jnTest _) =>
    arg 1
    whnf
  conv in (occs := *) (envOf _ jnScope _ _ _) =>
    all_goals (arg 2; whnf)
  (try k_fold)
  k_steps
  refine unhold ?_
  rename Fr _ _ _ _ => F'
  rename News _ _ _ _ => N'
  exact hret _ _ _ _ (fr_kn F' rfl rfl rfl rfl rfl rfl rfl (by (intros; repeat (first | (apply Mine.knn <;> assumption) | refine Mine.ifn (by assumption) ?_)))) N'
/-- the star behind them -/
theorem jn_end {w : World} {dp un : Nat} {fr : Option (List Env)} {gd : Option (List Code)} {p : Program} {loose : List Str} {mean : ExcName → Option Value} {mg mb : Str → Option Value} {s : Shared} {g : Heap} {L r st q fx fa : Addr} {cd : Value}
    {vs : List Value} {i : Int} {m k : Nat} {ti tm : Tok} {v2 : Option Value} {xs : Array Value} {news : List (Addr × Obj)} {Q : Flow → Shared → Prop}
    (X : (hd.heap_39 w.params).In g) (T : Top p loose mean mg mb g) (hdp : dp + 10 < recursionLimit) (hun : un + 40 < cLine) (hl : g.IsList r vs.toArray)
    (F : Fr g L s.heap (kn (some (.ref r)) (some (.ref st)) v2 (some (.ref q)) (some (.int i ti)) (some (.int m tm)) (some (.ref fx)))) (N : News g L s.heap ((fx, listOf xs k) :: news)) (hnl : ∀ p ∈ news, p.1 ≠ fx)
    (hi0 : 0 ≤ i) (him : i < m) (hm : m ≤ 50) (hxs : xs.size ≤ 50)
    (hx : vs[i.toNat]? = some (.ref st)) (hret : ∀ tk', Q .next { s with toks := tk' }) :
    WhlRest PySem.Challenge.rw_in0246_01.row.prog w ((⟨none, dp, fr, gd, un⟩ : Around).deeper (envOf (Str.ofString "_join_translated_parts") jnScope L fa cd)) (fun _ _ => False) (envOf (Str.ofString "_join_translated_parts") jnScope L fa cd) jnTest jnTurn [] Q 0 s := by
  revert X
  k_with_none
  k_fill
  (k_with "exec For Name Subscript cons nil" => (k_here; (rename Fr _ _ _ _ => lF'); (with_unfolding_all refine' For_invVF lF' ?k1 ?k2 ?_; (case k1 => exact rfl); (case k2 => exact rfl); k_whole)))
  (k_with "execs cons" => (first | (k_here; k_gentoks) | ((with_reducible refine Mine.execs_nx ?_); (try dsimp only))))
  (k_with "WhlPost" => dsimp only [Mine.Nx])
  (k_with "KswPost" => dsimp only [Mine.Nx])
  (k_with "InvPostN" => dsimp only [Mine.Nx])
  (k_with "UnrPost" => dsimp only [Mine.Nx])
  (k_with "storeName" => dsimp only)
  (k_with "getAttr ref" => (k_here; k_dflt (refine' Mine.bm_make ?k1 ?k2 ?k3 ?_; (case k1 => k_asm); (case k2 => k_asm); (case k3 => k_mem); k_whole); intro q' h' F' N' l1; (try k_lt l1); (try k_sweep)))
  (k_with "callWith ref" => (k_here; k_dflt (refine' Mine.bm_with ?k1 ?k2 ?_; (case k1 => k_asm); (case k2 => k_mem); k_whole)))
  (k_with "And" => ((with_reducible show Mine.BmAt _ _ _ ∧ _); k_dflt (refine ⟨News.get (by k_asm) (by k_mem), ?_⟩); (try dsimp only [List.nil_append, List.cons_append])))
  (k_with "call ref" => (k_here; (with_reducible show wpAny _ _ (call (Value.ref _) [_]) _ _ _); k_dflt (refine' Mine.bm_append ?k1 ?k2 ?k3 ?k4 ?_ ?z; (case k1 => k_asm); (case k2 => k_asm); (case k3 => k_mem); (case k4 => k_upd); (case z => size_fits); k_whole); intro h' F' N'; (try k_sweep)))
  (k_with "compareOp IsNot str ref" => (k_dflt (refine wpAny_isNot_other rfl (by intro e; cases e) ?_)))
  (k_with "compareOp IsNot ref ref" => (k_dflt (refine wpAny_isNot_ref_self ?_)))
  (k_with "compareOp Is ref ref" => (k_dflt (refine wpAny_is_ref_self ?_)))
  (k_with "exec While BoolOp cons nil" => (k_dflt (refine whl_start 0 ?_)))
  (k_with "exec While Compare" => (k_dflt (refine whl_start 0 ?_)))
  (k_with "WhlRest" => refine Mine.hold ?_)
  (k_with "call builtin:len" => (k_here; (with_reducible show wpAny _ _ (call (Value.builtin "len") [Value.ref _]) _ _ _); k_dflt (refine' Mine.len_known ?k1 ?k2 ?k3 ?_; (case k1 => is_list); (case k2 => assumption); (case k3 => (first | lia | omega)); k_whole); intro _ _))
  (k_with "subscriptTail Name Name ref int" => (k_here; k_dflt (refine' Mine.item_known ?k1 ?k2 ?k3 ?k4 ?_ ?k6; (case k1 => is_list); (case k2 => (first | lia | omega)); (case k3 => (first | lia | omega)); (case k4 => assumption); (case k6 => with_unfolding_all rfl); k_whole)))
  (k_with "call builtin:str.join" => refine Mine.hold ?_)
  (k_with "compareOp Lt int int" => first | (refine' Mine.lt_yes (by (first | lia | omega)) ?_; k_whole) | (refine' Mine.lt_no (by (first | lia | omega)) ?_; k_whole))
  (k_with "call builtin:list.append" => (k_here; (with_reducible show wpAny _ _ (call (Value.builtin _) [Value.ref _, _]) _ _ _); k_dflt (refine' append_K ?k1 ?k2 ?k3 ?_ ?z; (case k1 => k_asm); (case k2 => k_asm); (case k3 => exact Upd.head (by assumption)); (case z => (rw [PySem.sizeLine_eq]; (first | lia | omega))); k_whole); intro h' F' N'; (try k_sweep)))
  (k_with "compareOp Eq int int" => first | (refine' Mine.eq_yes (by (first | lia | omega)) ?_; k_whole) | (refine' Mine.eq_no (by (first | lia | omega)) ?_; k_whole))
  intro X
  refine hold ?_
  (refine Mine.unhold ?_; k_dflt (refine' (whl_turn (k := 0) ?hE ?_ : WhlRest _ _ _ _ _ _ _ _ _ (0 + 1) _); (case hE => first | passes_own | with_unfolding_all passes_own)); (try k_sweep))
  conv in (isTrue jnTest _ _) =>
    arg 1
    whnf
  conv in (eval jnTest _) =>
    arg 1
    whnf
  conv in (occs := *) (envOf _ jnScope _ _ _) =>
    all_goals (arg 2; whnf)
  (try k_fold)
  k_steps
  exact hret _
end Mine
namespace Mine
theorem drop_at {vs : List Value} {n : Nat} {v : Value} {r : List Value} (h : vs.drop n = v :: r) : vs[n]? = some v ∧ vs.drop (n + 1) = r := by
  constructor
  · have := List.getElem?_drop (xs := vs) (i := n) (j := 0)
    rw [h] at this
    exact this.symm
  · rw [← List.drop_drop, h]
    rfl
/-- all of them -/
theorem jn_run {w : World} {dp un : Nat} {fr : Option (List Env)} {gd : Option (List Code)} {p : Program} {loose : List Str} {mean : ExcName → Option Value} {mg mb : Str → Option Value} {g : Heap} {L r st q fx fa : Addr} {cd : Value}
    {vs : List Value} {m : Nat} {tm : Tok} {v2 : Option Value} {news : List (Addr × Obj)} {Q : Flow → Shared → Prop}
    (X : (hd.heap_39 w.params).In g) (T : Top p loose mean mg mb g) (hdp : dp + 10 < recursionLimit) (hun : un + 40 < cLine) (hl : g.IsList r vs.toArray) (hnl : ∀ p ∈ news, p.1 ≠ fx) (hm : m ≤ 50) (hlen : vs.length = m) :
    ∀ (rest : List (Str × Tok)) {s : Shared} {i k : Nat} {ti : Tok} {xs : Array Value}, Fr g L s.heap (kn (some (.ref r)) (some (.ref st)) v2 (some (.ref q)) (some (.int i ti)) (some (.int m tm)) (some (.ref fx))) → News g L s.heap ((fx, listOf xs k) :: news) →
    vs.drop i = strValues rest ++ [.ref st] → xs.size ≤ i →
    (∀ h' tk' t2 k', Fr g L h' (kn (some (.ref r)) (some (.ref st)) v2 (some (.ref q)) (some (.int ((i + rest.length : Nat) : Int) t2)) (some (.int m tm)) (some (.ref fx))) → News g L h' ((fx, listOf (xs.toList ++ strValues rest).toArray k') :: news) → Q .next { s with heap := h', toks := tk' }) →
    WhlRest PySem.Challenge.rw_in0246_01.row.prog w ((⟨none, dp, fr, gd, un⟩ : Around).deeper (envOf (Str.ofString "_join_translated_parts") jnScope L fa cd)) (fun _ _ => False) (envOf (Str.ofString "_join_translated_parts") jnScope L fa cd) jnTest jnTurn [] Q 0 s
  | [], s, i, k, ti, xs, F, N, hd, hxs, hret => by
    have him : i < m := by
      have := congrArg List.length hd
      simp at this
      (first | lia | omega)
    refine jn_end X T hdp hun hl F N hnl (by (first | lia | omega)) (by (first | lia | omega)) hm (by (first | lia | omega)) (by rw [Int.toNat_natCast]; exact (drop_at hd).1) fun tk' => hret _ tk' ti k F ?_
    have : (xs.toList ++ strValues []).toArray = xs := by simp [strValues]
    rw [this]
    exact N
  | (a, ta) :: rest, s, i, k, ti, xs, F, N, hd, hxs, hret => by
    have him : i < m := by
      have := congrArg List.length hd
      simp at this
      (first | lia | omega)
    refine jn_turn X T hdp hun hl F N hnl (by (first | lia | omega)) (by (first | lia | omega)) hm (by (first | lia | omega)) (by rw [Int.toNat_natCast]; exact (drop_at hd).1) fun h1 tk1 t1 k1 F1 N1 => ?_
    refine jn_run X T hdp hun hl hnl hm hlen rest (s := ⟨h1, s.gens, s.drawn, tk1, s.os⟩) (i := i + 1) (xs := xs.push (.str a ta)) F1 N1 (drop_at hd).2 (by rw [Array.size_push]; (first | lia | omega)) fun h2 tk2 t2 k2 F2 N2 => ?_
    refine hret h2 tk2 t2 k2 ?_ ?_
    · rw [show i + ((a, ta) :: rest).length = i + 1 + rest.length by simp only [List.length_cons]; (first | lia | omega)]
      exact F2
    · have : (xs.toList ++ strValues ((a, ta) :: rest)).toArray = ((xs.push (.str a ta)).toList ++ strValues rest).toArray := by simp [strValues]
      rw [this]
      exact N2
end Mine
namespace Mine
theorem look2 {z a b : Str} {va vb : Value} (ha : z ≠ a) (hb : z ≠ b) : List.lookup z [(a, va), (b, vb)] = none := by
  rw [List.lookup_cons, beq_eq_false_iff_ne.mpr ha, List.lookup_cons, beq_eq_false_iff_ne.mpr hb]
  rfl
theorem join_gen {w : World} {dp un : Nat} {fr : Option (List Env)} {gd : Option (List Code)} {p : Program} {loose : List Str} {mean : ExcName → Option Value} {mg mb : Str → Option Value} {s : Shared} {st r : Addr} {a ab cd : Str} {ta : Tok} {l0 : List (Str × Tok)} {m n : Nat} {Q E : Value → Shared → Prop} :
   (hd.heap_39 w.params).In s.heap → Top p loose mean mg mb s.heap → dp + 10 < recursionLimit → un + 40 < cLine →
   s.heap.get? r = some (listOf (.ref st :: (strValues ((a, ta) :: l0) ++ [.ref st])).toArray n) → (Value.ref st :: (strValues ((a, ta) :: l0) ++ [.ref st])).length = m → m ≤ 20 →
   Txt.join (Str.ofString "") (((a, ta) :: l0).map (·.1)) = ab → JoinOk (Str.ofString "") (((a, ta) :: l0).map (·.1)) = true → ab.length ≤ 30 →
   Txt.join (Str.ofString "") [Str.empty ++ Str.ofString "(?>.*?" ++ ab ++ Str.ofString ")", Str.ofString ".*"] = cd → JoinOk (Str.ofString "") [Str.empty ++ Str.ofString "(?>.*?" ++ ab ++ Str.ofString ")", Str.ofString ".*"] = true → cd.length ≤ 60 →
   (∀ t h' tk', (∀ b o, s.heap.get? b = some o → h'.get? b = some o) → Q (.str (Str.empty ++ Str.ofString "(?s:" ++ cd ++ Str.ofString ")\\Z") t) { s with heap := h', toks := tk' }) →
   wpAny (model PySem.Challenge.rw_in0246_01.row.prog w) ⟨none, dp, fr, gd, un⟩ (call (.ref 76) [.ref r, .ref st]) Q E s := by
  k_with_none
  k_fill
  (k_with "exec For Name Subscript cons nil" => (k_here; (rename Fr _ _ _ _ => lF'); (with_unfolding_all refine' For_invVF lF' ?k1 ?k2 ?_; (case k1 => exact rfl); (case k2 => exact rfl); k_whole)))
  (k_with "execs cons" => (first | (k_here; k_gentoks) | ((with_reducible refine Mine.execs_nx ?_); (try dsimp only))))
  (k_with "WhlPost" => dsimp only [Mine.Nx])
  (k_with "KswPost" => dsimp only [Mine.Nx])
  (k_with "InvPostN" => dsimp only [Mine.Nx])
  (k_with "UnrPost" => dsimp only [Mine.Nx])
  (k_with "storeName" => dsimp only)
  (k_with "getAttr ref" => (k_here; k_dflt (refine' Mine.bm_make ?k1 ?k2 ?k3 ?_; (case k1 => k_asm); (case k2 => k_asm); (case k3 => k_mem); k_whole); intro q' h' F' N' l1; (try k_lt l1); (try k_sweep)))
  (k_with "callWith ref" => (k_here; k_dflt (refine' Mine.bm_with ?k1 ?k2 ?_; (case k1 => k_asm); (case k2 => k_mem); k_whole)))
  (k_with "And" => ((with_reducible show Mine.BmAt _ _ _ ∧ _); k_dflt (refine ⟨News.get (by k_asm) (by k_mem), ?_⟩); (try dsimp only [List.nil_append, List.cons_append])))
  (k_with "call ref" => (k_here; (with_reducible show wpAny _ _ (call (Value.ref _) [_]) _ _ _); k_dflt (refine' Mine.bm_append ?k1 ?k2 ?k3 ?k4 ?_ ?z; (case k1 => k_asm); (case k2 => k_asm); (case k3 => k_mem); (case k4 => k_upd); (case z => size_fits); k_whole); intro h' F' N'; (try k_sweep)))
  (k_with "compareOp IsNot str ref" => (k_dflt (refine wpAny_isNot_other rfl (by intro e; cases e) ?_)))
  (k_with "compareOp IsNot ref ref" => (k_dflt (refine wpAny_isNot_ref_self ?_)))
  (k_with "compareOp Is ref ref" => (k_dflt (refine wpAny_is_ref_self ?_)))
  (k_with "exec While BoolOp cons nil" => (k_dflt (refine whl_start 0 ?_)))
  (k_with "exec While Compare" => (k_dflt (refine whl_start 0 ?_)))
  (k_with "WhlRest" => refine Mine.hold ?_)
  (k_with "call builtin:len" => (k_here; (with_reducible show wpAny _ _ (call (Value.builtin "len") [Value.ref _]) _ _ _); k_dflt (refine' Mine.len_known ?k1 ?k2 ?k3 ?_; (case k1 => is_list); (case k2 => assumption); (case k3 => (first | lia | omega)); k_whole); intro _ _))
  (k_with "subscriptTail Name Name ref int" => (k_here; k_dflt (refine' Mine.item_known ?k1 ?k2 ?k3 ?k4 ?_ ?k6; (case k1 => is_list); (case k2 => (first | lia | omega)); (case k3 => (first | lia | omega)); (case k4 => assumption); (case k6 => with_unfolding_all rfl); k_whole)))
  (k_with "call builtin:str.join" => refine Mine.hold ?_)
  (k_with "compareOp Lt int int" => first | (refine' Mine.lt_yes (by (first | lia | omega)) ?_; k_whole) | (refine' Mine.lt_no (by (first | lia | omega)) ?_; k_whole))
  (k_with "call builtin:list.append" => (k_here; (with_reducible show wpAny _ _ (call (Value.builtin _) [Value.ref _, _]) _ _ _); k_dflt (refine' append_K ?k1 ?k2 ?k3 ?_ ?z; (case k1 => k_asm); (case k2 => k_asm); (case k3 => exact Upd.head (by assumption)); (case z => (rw [PySem.sizeLine_eq]; (first | lia | omega))); k_whole); intro h' F' N'; (try k_sweep)))
  (k_with "compareOp Eq int int" => first | (refine' Mine.eq_yes (by (first | lia | omega)) ?_; k_whole) | (refine' Mine.eq_no (by (first | lia | omega)) ?_; k_whole))
  intro X T hdp hun hr hlen hm hj1 hok1 hl1 hj2 hok2 hl2 hret
  k_dflt ((refine' Mine.enter (by assumption) (by assumption) ?ck ?cs ?ho ?hcd ?hroom ?hbind ?hloc ?c2 ?c3 ?c4 ?c5 ?_; (case ho => k_is); (case hcd => k_is); (case hbind => exact BindsTo.of_eq rfl); (case hloc => exact locs rfl); (case c2 => exact rfl); (case c3 => exact rfl); (case c4 => exact rfl); (case c5 => decide)))
  case ck => exact fun _ _ e => e
  case cs => exact Nat.le_refl _
  case hroom => exact Mine.rm (j := 0) hdp rfl
  intro L h₁ hL F hk
  have N : News s.heap L h₁ [] := News.nil
  have hlist : s.heap.IsList r (Value.ref st :: (strValues ((a, ta) :: l0) ++ [.ref st])).toArray := ⟨_, hr, rfl, n, rfl⟩
  have hsz : (Value.ref st :: (strValues ((a, ta) :: l0) ++ [.ref st])).toArray.size = m := by rw [List.size_toArray]; exact hlen
  have hl3 : 2 + ((a, ta) :: l0).length = m := by rw [← hlen]; simp [strValues]; (first | lia | omega)
  have hv0 : (Value.ref st :: (strValues ((a, ta) :: l0) ++ [.ref st]))[0]? = some (.ref st) := rfl
  have hv1 : (Value.ref st :: (strValues ((a, ta) :: l0) ++ [.ref st]))[1]? = some (.str a ta) := rfl
  have hv2 : (Value.ref st :: (strValues ((a, ta) :: l0) ++ [.ref st]))[1 + ((a, ta) :: l0).length]? = some (.ref st) := by rw [Nat.add_comm, List.getElem?_cons_succ, List.getElem?_append_right (by simp [strValues])]; simp [strValues]
  clear hL hk
  (try dsimp only)
  (try k_fold)
  k_steps
  (refine Mine.unhold ?_; k_dflt (refine' (whl_turn (k := 0) ?hE ?_ : WhlRest _ _ _ _ _ _ _ _ _ (0 + 1) _); (case hE => first | passes_own | with_unfolding_all passes_own)); (try k_sweep))
  k_steps
  (refine Mine.unhold ?_; k_dflt (refine' (whl_turn (k := 0) ?hE ?_ : WhlRest _ _ _ _ _ _ _ _ _ (0 + 1) _); (case hE => first | passes_own | with_unfolding_all passes_own)); (try k_sweep))
  k_steps
  refine unhold ?_
  rename Fr _ _ _ _ => F'
  rename News _ _ _ _ => N'
  rename (_ < _ ∧ _ < _ ∧ _ < _) => l1
  have F9 : Fr s.heap L _ (kn (some (.ref r)) (some (.ref st)) (some (.ref _)) (some (.ref _)) (some (.int ((1 : Nat) : Int) _)) (some (.int m _)) (some (.ref _))) :=
    fr_kn F' rfl rfl rfl rfl rfl rfl rfl (by
      intro z a0 a1 a2 a3 a4 a5 a6
      repeat (refine ifn (by assumption) ?_)
      exact look2 (by assumption) (by assumption))
  clear F'
  refine jn_run (i := 1) X T hdp hun hlist ?hnl (by (first | lia | omega)) hlen ((a, ta) :: l0) F9 N' rfl (Nat.zero_le _) ?_
  case hnl => k_all
  clear N' F9
  intro h2 tk2 t2 k2 F2 N2
  k_steps
  refine unhold ?_
  rename Fr _ _ _ _ => F'
  rename News _ _ _ _ => N'
  refine SC.join (l := (a, ta) :: l0) (texts := ((a, ta) :: l0).map (·.1)) (News.isList N' (.head _)) rfl hok1 ?_
  intro t1 k1
  rw [hj1]
  k_steps
  (refine Mine.unhold ?_; k_dflt (refine' (whl_turn (k := 0) ?hE ?_ : WhlRest _ _ _ _ _ _ _ _ _ (0 + 1) _); (case hE => first | passes_own | with_unfolding_all passes_own)); (try k_sweep))
  k_steps
  refine unhold ?_
  rename Fr _ _ _ _ => F'
  rename News _ _ _ _ => N'
  refine SC.join (l := [(_, _), (_, _)]) (texts := [Str.empty ++ Str.ofString "(?>.*?" ++ ab ++ Str.ofString ")", Str.ofString ".*"]) (News.isList N' (.tail _ (.tail _ (.tail _ (.head _))))) rfl hok2 ?_
  intro t1 k1
  rw [hj2]
  k_steps
  rename Fr _ _ _ _ => F'
  exact hret _ _ _ F'.keep
def txtHead : List Nat := [40, 63, 115, 58, 40, 63, 62, 46, 42, 63]
def txtFoot : List Nat := [41, 46, 42, 41, 92, 90]
theorem jl0 : Str.ofString "" = ⟨#[]⟩ := by decide
theorem jl1 : Str.ofString "(?s:" = ⟨#[40, 63, 115, 58]⟩ := by decide
theorem jl2 : Str.ofString "(?>.*?" = ⟨#[40, 63, 62, 46, 42, 63]⟩ := by decide
theorem jl3 : Str.ofString ")" = ⟨#[41]⟩ := by decide
theorem jl4 : Str.ofString ".*" = ⟨#[46, 42]⟩ := by decide
theorem jl5 : Str.ofString ")\\Z" = ⟨#[41, 92, 90]⟩ := by decide
theorem app_cps (a b : Str) : a ++ b = ⟨a.cps ++ b.cps⟩ := rfl
theorem jn_text (ab : Str) : Str.empty ++ Str.ofString "(?s:" ++ Txt.join (Str.ofString "") [Str.empty ++ Str.ofString "(?>.*?" ++ ab ++ Str.ofString ")", Str.ofString ".*"] ++ Str.ofString ")\\Z" = ⟨(txtHead ++ ab.cps.toList ++ txtFoot).toArray⟩ := by
  rw [jl0, jl1, jl2, jl3, jl4, jl5]
  unfold Txt.join Builtin.Str.glued Str.empty txtHead txtFoot
  simp only [app_cps, List.headD_cons, List.drop_succ_cons, List.drop_zero, List.foldl_cons, List.foldl_nil]
  refine congrArg Str.mk (Array.ext' ?_)
  simp
theorem jn_ok {ab : Str} (h : ab.length ≤ 30) : JoinOk (Str.ofString "") [Str.empty ++ Str.ofString "(?>.*?" ++ ab ++ Str.ofString ")", Str.ofString ".*"] = true := by
  rw [jl0, jl2, jl3, jl4]
  unfold JoinOk Builtin.Str.tooLong
  have h' : ab.cps.size ≤ 30 := h
  have hs := sizeLine_eq
  simp only [app_cps, Str.empty, Str.length, List.size_toArray, List.length_cons, List.length_nil, hs]
  simp
  (first | lia | omega)
theorem jn_len {ab : Str} (h : ab.length ≤ 30) : (Txt.join (Str.ofString "") [Str.empty ++ Str.ofString "(?>.*?" ++ ab ++ Str.ofString ")", Str.ofString ".*"]).length ≤ 60 := by
  rw [jl0, jl2, jl3, jl4]
  unfold Txt.join Builtin.Str.glued
  have h' : ab.cps.size ≤ 30 := h
  simp only [app_cps, Str.empty, Str.length, List.headD_cons, List.drop_succ_cons, List.drop_zero, List.foldl_cons, List.foldl_nil, Array.size_append, List.size_toArray, List.length_cons, List.length_nil]
  (first | lia | omega)
/-- the call, whatever the texts between the stars are -/
theorem joinT_spec {w : World} {dp un : Nat} {fr : Option (List Env)} {gd : Option (List Code)} {p : Program} {loose : List Str} {mean : ExcName → Option Value} {mg mb : Str → Option Value} {s : Shared} {st r : Addr} {a ab : Str} {ta : Tok} {l0 : List (Str × Tok)} {n : Nat} {Q E : Value → Shared → Prop}
    (X : (hd.heap_39 w.params).In s.heap) (T : Top p loose mean mg mb s.heap) (hdp : dp + 10 < recursionLimit) (hun : un + 40 < cLine)
    (hr : s.heap.get? r = some (listOf (.ref st :: (strValues ((a, ta) :: l0) ++ [.ref st])).toArray n)) (hm : (Value.ref st :: (strValues ((a, ta) :: l0) ++ [.ref st])).length ≤ 20)
    (hj : Txt.join (Str.ofString "") (((a, ta) :: l0).map (·.1)) = ab) (hok : JoinOk (Str.ofString "") (((a, ta) :: l0).map (·.1)) = true) (hl : ab.length ≤ 30)
    (hret : ∀ t h' tk', (∀ b o, s.heap.get? b = some o → h'.get? b = some o) → Q (.str ⟨(txtHead ++ ab.cps.toList ++ txtFoot).toArray⟩ t) { s with heap := h', toks := tk' }) :
    wpAny (model PySem.Challenge.rw_in0246_01.row.prog w) ⟨none, dp, fr, gd, un⟩ (call (.ref 76) [.ref r, .ref st]) Q E s :=
  join_gen X T hdp hun hr rfl hm hj hok hl rfl (jn_ok hl) (jn_len hl) (fun t h' tk' hk => by rw [jn_text]; exact hret t h' tk' hk)
theorem br_len (x y : Nat) : (brText x y).length ≤ 5 := by
  unfold brText
  split <;> exact Nat.le_of_ble_eq_true rfl
theorem jt2 (x : Nat) (b : Str) : Txt.join (Str.ofString "") [⟨#[x]⟩, b] = ⟨([x] ++ b.cps.toList).toArray⟩ := by
  rw [jl0]
  unfold Txt.join Builtin.Str.glued
  simp only [List.headD_cons, List.drop_succ_cons, List.drop_zero, List.foldl_cons, List.foldl_nil]
  refine congrArg Str.mk (Array.ext' ?_)
  simp
theorem jt3 (x y : Nat) (b : Str) : Txt.join (Str.ofString "") [⟨#[x]⟩, ⟨#[y]⟩, b] = ⟨([x, y] ++ b.cps.toList).toArray⟩ := by
  rw [jl0]
  unfold Txt.join Builtin.Str.glued
  simp only [List.headD_cons, List.drop_succ_cons, List.drop_zero, List.foldl_cons, List.foldl_nil]
  refine congrArg Str.mk (Array.ext' ?_)
  simp
theorem jok2 (x : Nat) {b : Str} (h : b.length ≤ 5) : JoinOk (Str.ofString "") [⟨#[x]⟩, b] = true := by
  rw [jl0]
  unfold JoinOk Builtin.Str.tooLong
  have h' : b.cps.size ≤ 5 := h
  have hs := sizeLine_eq
  simp only [Str.length, List.size_toArray, List.length_cons, List.length_nil, hs]
  simp
  (first | lia | omega)
theorem jok3 (x y : Nat) {b : Str} (h : b.length ≤ 5) : JoinOk (Str.ofString "") [⟨#[x]⟩, ⟨#[y]⟩, b] = true := by
  rw [jl0]
  unfold JoinOk Builtin.Str.tooLong
  have h' : b.cps.size ≤ 5 := h
  have hs := sizeLine_eq
  simp only [Str.length, List.size_toArray, List.length_cons, List.length_nil, hs]
  simp
  (first | lia | omega)
theorem len2 {xs : List Nat} {b : Str} (hx : xs.length ≤ 5) (h : b.length ≤ 5) : (⟨(xs ++ b.cps.toList).toArray⟩ : Str).length ≤ 30 := by
  have h' : b.cps.size ≤ 5 := h
  show (xs ++ b.cps.toList).toArray.size ≤ 30
  simp
  (first | lia | omega)
end Mine
end
section
namespace Mine
open PySem.Calls PySem.Spec PySem.Builtin
theorem mro_object : mroOf (.type "object") = pure [.type "object"] := by rw [mroOf_type]; kernel_rfl
theorem new_object : typeLookup (.type "object") "__new__" = pure (some (.builtin "object.__new__")) := by rw [typeLookup_type, builtinLookup_eq_fast]; kernel_rfl
theorem sub_object : isSubtype (.type "object") (.type "object") = pure true := by rw [isSubtype_type]; kernel_rfl
theorem init_object : Slot "object" "__init__" "object.__init__" :=
  .of (owner := "object") (n := "__init__") (by rw [typeLookup_type, builtinLookup_eq_fast]; kernel_rfl) (by decide +kernel) (by decide +kernel) (by decide +kernel)
    (by first | exact .inl (by decide +kernel) | exact .inr (by decide +kernel)) (by rw [isSubtype_type]; kernel_rfl)
theorem called_object : TypeCalled "object" "object.__new__" "object.__init__" :=
  ⟨by decide +kernel, by decide +kernel, ⟨_, _, mro_object⟩, madeBy_type mro_object new_object (by decide +kernel), by decide +kernel, sub_object, init_object⟩
theorem typeCall_object : checkTypeCall "object" ⟨[], []⟩ = pure () := by kernel_rfl
theorem newCall_object : checkBuiltinCall "object.__new__" ⟨[.type "object"], []⟩ = pure () := by kernel_rfl
theorem initArgs_object (v : Value) : argsOk "object.__init__" ⟨[v], []⟩ := by unfold argsOk; kernel_rfl
theorem isType_object : isType (.type "object") = pure true := by first | rfl | kernel_rfl
theorem madeHere_object : Bind.madeHere "object.__new__" (.type "object") = pure () := by first | rfl | kernel_rfl
def plainObj : Obj := { cls := .type "object", data := .plain }
theorem object_new_meets : Meets (Builtin.«object.__new__» ⟨[.type "object"], []⟩) (fun _ R s => R (.ok (.ret (.ref s.heap.objs.size))) { s with heap := s.heap.push plainObj }) :=
  Meets.of_wp fun prog w A R s hs => by
    obtain ⟨hp, g, d, tk, os⟩ := s
    unfold Builtin.«object.__new__»
    refine wpAny_bind (wpAny_of_eq (a := true) isType_object ?_)
    dsimp only
    refine wpAny_bind (wpAny_of_eq (a := ()) madeHere_object ?_)
    refine KFB.if_not (by rfl) ?_
    refine KFB.if_not (by decide +kernel) ?_
    refine wpAny_bind (wpAny_pure ?_)
    refine wpAny_bind (wpAny_newObj_type ?_)
    refine KFB.if_not (by decide +kernel) ?_
    exact wpAny_pure ⟨_, rfl, hs⟩
section
variable {prog : Program} {w : World} {A : Around} {E : Value → Shared → Prop} {s : Shared}
theorem call_object {Q : Value → Shared → Prop} (h : Q (.ref s.heap.objs.size) { s with heap := s.heap.push plainObj }) : wpAny (model prog w) A (call (.type "object") []) Q E s :=
  callType_meets (Q₁ := fun v s₁ => v = .ref s.heap.objs.size ∧ s₁ = { s with heap := s.heap.push plainObj }) called_object typeCall_object newCall_object PySem.F.objNew.entry PySem.F.entry_object_init object_new_meets ⟨rfl, rfl⟩ fun obj s₁ hq => by
    obtain ⟨rfl, rfl⟩ := hq
    refine ⟨⟨_, Heap.get?_push_size _ rfl, rfl⟩, initArgs_object _, (fun _ R s => R (.ok (.ret .none)) s), Meets.of_wp fun prog w A R s hs => wpAny_pure ⟨_, rfl, hs⟩, ?_⟩
    exact ⟨rfl, h⟩
theorem call_object_N {h₀ : Heap} {L : Addr} {m : Str → Option Value} {news : List (Addr × Obj)} {Q : Value → Shared → Prop} (F : Fr h₀ L s.heap m) (N : News h₀ L s.heap news)
    (h : ∀ o h', Fr h₀ L h' m → News h₀ L h' ((o, plainObj) :: news) → (∀ p ∈ news, p.1 < o) → Q (.ref o) { s with heap := h' }) : wpAny (model prog w) A (call (.type "object") []) Q E s :=
  call_object (h _ _ (F.push _) (News.push F N _) fun p hp => Heap.lt_size (N p hp).1)
end
end Mine
end
section
namespace Mine
theorem news_hid {g h h' : Heap} {L D : Addr} {m : Str → Option Value} {news : List (Addr × Obj)} {o o' od : Obj} (F : Fr g L h m) (N : News g L h ((64, o) :: news)) (hn : ∀ p ∈ news, p.1 ≠ 64)
    (hk : ∀ b o, (h.hide 64).get? b = some o → h'.get? b = some o) (he : h'.get? 64 = some o') (hD : (h.hide 64).get? D = none) (hDn : D ≠ 64) (hg : h'.get? D = some od) : News g L h' ((D, od) :: (64, o') :: news) := by
  have hD' : h.get? D = none := by rw [← Heap.hide_ne _ hDn]; exact hD
  intro q hq
  rcases List.mem_cons.mp hq with rfl | hq
  · refine ⟨hg, ?_, ?_⟩
    · obtain ⟨oL, _, _, hL, _⟩ := F.ns
      exact ne_new hD' hL
    · cases e : g.get? D with
      | none => rfl
      | some o' => have := F.keep _ _ e; rw [hD'] at this; cases this
  · exact news_put N hn hk he q hq
/-- what translate gives: the words ahead of the bracket, the bracket -/
def trText (xs : List Nat) (x y : Nat) : Str := ⟨(txtHead ++ (xs ++ (brText x y).cps.toList) ++ txtFoot).toArray⟩
theorem translate2_spec {w : World} {dp un : Nat} {fr : Option (List Env)} {gd : Option (List Code)} {p : Program} {loose : List Str} {mean : ExcName → Option Value} {mg mb : Str → Option Value} {s : Shared} {x y : Nat} {tx : Tok} {ps : Array Value} {Q E : Value → Shared → Prop} :
   (hd.heap_39 w.params).In (s.heap.hide 64) → Top p loose mean mg mb (s.heap.hide 64) → dp + 30 < recursionLimit → un + 100 < cLine →
   CodeHd (s.heap.hide 64) 68 64 → s.heap.get? 64 = some (tabObj ps) → Tb ps → AllBare s.gens →
   66 ≤ x → x ≤ 76 → 66 ≤ y → y ≤ 76 →
   (∀ t ps' h' g' tk', (∀ b o, (s.heap.hide 64).get? b = some o → h'.get? b = some o) → h'.get? 64 = some (tabObj ps') → Tb ps' → AllBare g' → Q (.str (trText [x] x y) t) { s with heap := h', gens := g', toks := tk' }) →
   wpAny (model PySem.Challenge.rw_in0246_01.row.prog w) ⟨none, dp, fr, gd, un⟩ (call (.ref 50) [.str ⟨#[42, x, 91, y, 45, x, 93, 42]⟩ tx]) Q E s := by
  k_with_none
  k_fill
  (k_with "exec For Name Subscript cons nil" => (k_here; (rename Fr _ _ _ _ => lF'); (with_unfolding_all refine' For_invVF lF' ?k1 ?k2 ?_; (case k1 => exact rfl); (case k2 => exact rfl); k_whole)))
  (k_with "execs cons" => (first | (k_here; k_gentoks) | ((with_reducible refine Mine.execs_nx ?_); (try dsimp only))))
  (k_with "WhlPost" => dsimp only [Mine.Nx])
  (k_with "KswPost" => dsimp only [Mine.Nx])
  (k_with "InvPostN" => dsimp only [Mine.Nx])
  (k_with "UnrPost" => dsimp only [Mine.Nx])
  (k_with "storeName" => dsimp only)
  (k_with "call type:object" => (k_here; k_dflt (refine' Mine.call_object_N ?k1 ?k2 ?_; (case k1 => k_asm); (case k2 => k_asm); k_whole); intro o' h' F' N' l1; (try k_lt l1); (try k_sweep)))
  intro X T hdp hun C htab hps hbare hx0 hx1 hy0 hy1 hret
  k_dflt ((refine' Mine.enter (by assumption) (by assumption) ?ck ?cs ?ho ?hcd ?hroom ?hbind ?hloc ?c2 ?c3 ?c4 ?c5 ?_; (case ho => k_is); (case hcd => k_is); (case hbind => exact BindsTo.of_eq rfl); (case hloc => exact locs rfl); (case c2 => exact rfl); (case c3 => exact rfl); (case c4 => exact rfl); (case c5 => decide)))
  case ck => exact fun _ _ e => Heap.of_hide e
  case cs => exact Nat.le_of_eq (Heap.hide_size _ _)
  case hroom => exact Mine.rm (j := 0) hdp rfl
  intro L h₁ hL F hk
  have N := hide_news htab hk hL
  clear hL hk
  (try dsimp only)
  (try k_fold)
  k_steps
  rename Fr _ _ _ _ => F'
  rename News _ _ _ _ => N'
  have N2 := fun z hz => N' z (List.Mem.tail _ hz)
  with_unfolding_all refine' transl2_spec (X.keeps (hide_keep F'.keep)) (T.keeps (hide_keep F'.keep)) ?d ?u (C.keeps (hide_keep F'.keep)) (News.get N2 (.head _)) hps hbare hx0 hx1 hy0 hy1 ?_
  case d => (show dp + 1 + 20 < _; exact Mine.rm (j := 21) hdp rfl)
  case u => (show un + 3 + 80 < _; exact Mine.rm (j := 83) hun rfl)
  intro r t0 t1 n9 ps9 h9 g9 tk9 hk9 he9 hps9 hb9 hr9 hrn hg9
  have F9 := fr_after F' (N2 _ (.head _)).2.1 (N2 _ (.head _)).2.2 hk9
  have N9 := news_hid F' N2 (fun _ h => nomatch h) hk9 he9 hr9 hrn hg9
  clear F' N' N2 hk9 he9 hr9 hg9
  k_steps
  rename Fr _ _ _ _ => F'
  rename News _ _ _ _ => N'
  with_unfolding_all refine' joinT_spec (a := ⟨#[x]⟩) (l0 := [(brText x y, t1)]) (X.keeps F'.keep) (T.keeps F'.keep) ?d ?u (News.get N' (.head _)) (Nat.le_of_ble_eq_true rfl) (jt2 x _) (jok2 x (br_len x y)) (len2 (Nat.le_of_ble_eq_true rfl) (br_len x y)) ?_
  case d => (show dp + 1 + 10 < _; exact Mine.rm (j := 11) hdp rfl)
  case u => (show un + 3 + 40 < _; exact Mine.rm (j := 43) hun rfl)
  intro t8 h8 tk8 hk8
  exact hret _ _ _ _ _ (fun b o e => hk8 b o (F'.keep b o e)) (hk8 _ _ (News.get N' (.tail _ (.head _)))) hps9 hb9
end Mine
end
section
namespace Mine
theorem translate3_spec {w : World} {dp un : Nat} {fr : Option (List Env)} {gd : Option (List Code)} {p : Program} {loose : List Str} {mean : ExcName → Option Value} {mg mb : Str → Option Value} {s : Shared} {x y z : Nat} {tx : Tok} {ps : Array Value} {Q E : Value → Shared → Prop} :
   (hd.heap_39 w.params).In (s.heap.hide 64) → Top p loose mean mg mb (s.heap.hide 64) → dp + 30 < recursionLimit → un + 100 < cLine →
   CodeHd (s.heap.hide 64) 68 64 → s.heap.get? 64 = some (tabObj ps) → Tb ps → AllBare s.gens →
   66 ≤ x → x ≤ 76 → 66 ≤ y → y ≤ 76 → 66 ≤ z → z ≤ 76 →
   (∀ t ps' h' g' tk', (∀ b o, (s.heap.hide 64).get? b = some o → h'.get? b = some o) → h'.get? 64 = some (tabObj ps') → Tb ps' → AllBare g' → Q (.str (trText [x, y] x z) t) { s with heap := h', gens := g', toks := tk' }) →
   wpAny (model PySem.Challenge.rw_in0246_01.row.prog w) ⟨none, dp, fr, gd, un⟩ (call (.ref 50) [.str ⟨#[42, x, y, 91, z, 45, x, 93, 42]⟩ tx]) Q E s := by
  k_with_none
  k_fill
  (k_with "exec For Name Subscript cons nil" => (k_here; (rename Fr _ _ _ _ => lF'); (with_unfolding_all refine' For_invVF lF' ?k1 ?k2 ?_; (case k1 => exact rfl); (case k2 => exact rfl); k_whole)))
  (k_with "execs cons" => (first | (k_here; k_gentoks) | ((with_reducible refine Mine.execs_nx ?_); (try dsimp only))))
  (k_with "WhlPost" => dsimp only [Mine.Nx])
  (k_with "KswPost" => dsimp only [Mine.Nx])
  (k_with "InvPostN" => dsimp only [Mine.Nx])
  (k_with "UnrPost" => dsimp only [Mine.Nx])
  (k_with "storeName" => dsimp only)
  (k_with "call type:object" => (k_here; k_dflt (refine' Mine.call_object_N ?k1 ?k2 ?_; (case k1 => k_asm); (case k2 => k_asm); k_whole); intro o' h' F' N' l1; (try k_lt l1); (try k_sweep)))
  intro X T hdp hun C htab hps hbare hx0 hx1 hy0 hy1 hz0 hz1 hret
  k_dflt ((refine' Mine.enter (by assumption) (by assumption) ?ck ?cs ?ho ?hcd ?hroom ?hbind ?hloc ?c2 ?c3 ?c4 ?c5 ?_; (case ho => k_is); (case hcd => k_is); (case hbind => exact BindsTo.of_eq rfl); (case hloc => exact locs rfl); (case c2 => exact rfl); (case c3 => exact rfl); (case c4 => exact rfl); (case c5 => decide)))
  case ck => exact fun _ _ e => Heap.of_hide e
  case cs => exact Nat.le_of_eq (Heap.hide_size _ _)
  case hroom => exact Mine.rm (j := 0) hdp rfl
  intro L h₁ hL F hk
  have N := hide_news htab hk hL
  clear hL hk
  (try dsimp only)
  (try k_fold)
  k_steps
  rename Fr _ _ _ _ => F'
  rename News _ _ _ _ => N'
  have N2 := fun z hz => N' z (List.Mem.tail _ hz)
  with_unfolding_all refine' transl3_spec (X.keeps (hide_keep F'.keep)) (T.keeps (hide_keep F'.keep)) ?d ?u (C.keeps (hide_keep F'.keep)) (News.get N2 (.head _)) hps hbare hx0 hx1 hy0 hy1 hz0 hz1 ?_
  case d => (show dp + 1 + 20 < _; exact Mine.rm (j := 21) hdp rfl)
  case u => (show un + 3 + 80 < _; exact Mine.rm (j := 83) hun rfl)
  intro r t0 t1 t2 n9 ps9 h9 g9 tk9 hk9 he9 hps9 hb9 hr9 hrn hg9
  have F9 := fr_after F' (N2 _ (.head _)).2.1 (N2 _ (.head _)).2.2 hk9
  have N9 := news_hid F' N2 (fun _ h => nomatch h) hk9 he9 hr9 hrn hg9
  clear F' N' N2 hk9 he9 hr9 hg9
  k_steps
  rename Fr _ _ _ _ => F'
  rename News _ _ _ _ => N'
  with_unfolding_all refine' joinT_spec (a := ⟨#[x]⟩) (l0 := [(⟨#[y]⟩, t1), (brText x z, t2)]) (X.keeps F'.keep) (T.keeps F'.keep) ?d ?u (News.get N' (.head _)) (Nat.le_of_ble_eq_true rfl) (jt3 x y _) (jok3 x y (br_len x z)) (len2 (Nat.le_of_ble_eq_true rfl) (br_len x z)) ?_
  case d => (show dp + 1 + 10 < _; exact Mine.rm (j := 11) hdp rfl)
  case u => (show un + 3 + 40 < _; exact Mine.rm (j := 43) hun rfl)
  intro t8 h8 tk8 hk8
  exact hret _ _ _ _ _ (fun b o e => hk8 b o (F'.keep b o e)) (hk8 _ _ (News.get N' (.tail _ (.head _)))) hps9 hb9
end Mine
end
section
namespace Mine
theorem len_bound {c : Nat} {r : List Nat} (hr : r.length ≤ 100) : ¬ (((⟨(c :: r).toArray⟩ : Str).length : Nat) : Int) ≥ 2 ^ 63 := by
  have : (⟨(c :: r).toArray⟩ : Str).length = r.length + 1 := by show (c :: r).toArray.size = _; simp
  omega
section
variable {prog : Program} {w : World} {A : Around} {E : Value → Shared → Prop} {s : Shared}
theorem truthy_cons {c : Nat} {r : List Nat} {t : Tok} {Q : Bool → Shared → Prop} (hr : r.length ≤ 100) (h : Q true { s with toks := s.toks + 1 + 1 }) : wpAny (model prog w) A (truthy (.str ⟨(c :: r).toArray⟩ t)) Q E s := by
  refine PySem.P.truthy_str (len_bound hr) ?_
  have : ((((⟨(c :: r).toArray⟩ : Str).length : Nat) : Int) != 0) = true := by
    have : (⟨(c :: r).toArray⟩ : Str).length = r.length + 1 := by show (c :: r).toArray.size = _; simp
    rw [this]
    exact bne_iff_ne.mpr (by omega)
  rw [this]
  exact h
end
theorem lit_bang3 : Str.ofString "(?!)" = ⟨#[40, 63, 33, 41]⟩ := by decide
theorem head_ne {x : Nat} {r : List Nat} (h : x ≠ 40) : (((⟨(x :: r).toArray⟩ : Str).cps.toList) == (Str.ofString "(?!)").cps.toList) = false := by
  rw [lit_bang3]
  simp [h]
theorem jat_two {h : Heap} {q0 q1 : Addr} {a0 b0 a1 b1 : Nat} {t0 u0 t1 u1 : Tok} (h0 : h.IsTuple q0 #[.str ⟨#[a0]⟩ t0, .str ⟨#[b0]⟩ u0]) (h1 : h.IsTuple q1 #[.str ⟨#[a1]⟩ t1, .str ⟨#[b1]⟩ u1]) :
    JAt h #[.ref q0, .ref q1] [(a0, b0), (a1, b1)] := by
  refine ⟨rfl, fun i lo hi e => ?_⟩
  match i, e with
  | 0, e => cases e; exact ⟨q0, t0, u0, rfl, h0⟩
  | 1, e => cases e; exact ⟨q1, t1, u1, rfl, h1⟩
  | i + 2, e => simp at e
theorem jat_three {h : Heap} {q0 q1 q2 : Addr} {a0 b0 a1 b1 a2 b2 : Nat} {t0 u0 t1 u1 t2 u2 : Tok} (h0 : h.IsTuple q0 #[.str ⟨#[a0]⟩ t0, .str ⟨#[b0]⟩ u0]) (h1 : h.IsTuple q1 #[.str ⟨#[a1]⟩ t1, .str ⟨#[b1]⟩ u1]) (h2 : h.IsTuple q2 #[.str ⟨#[a2]⟩ t2, .str ⟨#[b2]⟩ u2]) :
    JAt h #[.ref q0, .ref q1, .ref q2] [(a0, b0), (a1, b1), (a2, b2)] := by
  refine ⟨rfl, fun i lo hi e => ?_⟩
  match i, e with
  | 0, e => cases e; exact ⟨q0, t0, u0, rfl, h0⟩
  | 1, e => cases e; exact ⟨q1, t1, u1, rfl, h1⟩
  | 2, e => cases e; exact ⟨q2, t2, u2, rfl, h2⟩
  | i + 3, e => simp at e
end Mine
end
section
namespace Mine
/-! _law_judges: what one turn of its loop does -/
def jdFn : Stmt := sAt PySem.Challenge.rw_in0246_01.row.prog.main.body 24
def jdScope : Scope := sScope jdFn
def jdTurn : List Stmt := sBody (sAt (sBody jdFn) 2)
def jdTest : PySem.Expr := match sAt (sBody jdFn) 2 with | .While t _ _ _ => t | _ => default
/-- the frame of _law_judges -/
def jm (v0 v1 v2 : Option Value) : Str → Option Value := fun z =>
  if z = Str.ofString "text" then v0 else if z = Str.ofString "rest" then v1 else if z = Str.ofString "judges" then v2 else none
theorem jmn {z : Str} {v0 v1 v2 : Option Value} (a0 : z ≠ Str.ofString "text") (a1 : z ≠ Str.ofString "rest") (a2 : z ≠ Str.ofString "judges") : jm v0 v1 v2 z = none := by
  unfold jm
  simp only [a0, a1, a2, if_false]
theorem fr_jm {g h : Heap} {L : Addr} {m : Str → Option Value} {v0 v1 v2 : Option Value} (F : Fr g L h m) (h0 : m (Str.ofString "text") = v0) (h1 : m (Str.ofString "rest") = v1) (h2 : m (Str.ofString "judges") = v2)
    (hr : ∀ z, z ≠ Str.ofString "text" → z ≠ Str.ofString "rest" → z ≠ Str.ofString "judges" → m z = none) : Fr g L h (jm v0 v1 v2) :=
  fr_to F fun z => look_eq [(Str.ofString "text", v0), (Str.ofString "rest", v1), (Str.ofString "judges", v2)] (List.forall_mem_cons.mpr ⟨h0, List.forall_mem_cons.mpr ⟨h1, List.forall_mem_cons.mpr ⟨h2, List.forall_mem_nil _⟩⟩⟩) z fun h => hr z (h _ (.head _)) (h _ (.tail _ (.head _))) (h _ (.tail _ (.tail _ (.head _))))
end Mine
namespace Mine
/-- the tuple of two signs -/
def jtup (a b : Value) : Obj := { cls := .type "tuple", data := .seq #[a, b] }
theorem news_swap {g h : Heap} {L : Addr} {a b : Addr × Obj} {news : List (Addr × Obj)} (N : News g L h (a :: b :: news)) : News g L h (b :: a :: news) := fun p hp => by
  rcases List.mem_cons.mp hp with rfl | hp
  · exact N _ (.tail _ (.head _))
  · rcases List.mem_cons.mp hp with rfl | hp
    · exact N _ (.head _)
    · exact N _ (.tail _ (.tail _ hp))
/-- a sign taken as it is -/
theorem jd_let {w : World} {dp un : Nat} {fr : Option (List Env)} {gd : Option (List Code)} {p : Program} {loose : List Str} {mean : ExcName → Option Value} {mg mb : Str → Option Value} {s : Shared} {g : Heap} {L l fa : Addr} {cd : Value}
    {P R A : Str} {n : Nat} {tr : Tok} {xs : Array Value} {v0 : Option Value} {news : List (Addr × Obj)} {Q : Flow → Shared → Prop} {E : Value → Shared → Prop}
    (X : (hd.heap_39 w.params).In g) (T : Top p loose mean mg mb g) (hdp : dp + 10 < recursionLimit) (hun : un + 40 < cLine)
    (F : Fr g L s.heap (jm v0 (some (.str P tr)) (some (.ref l)))) (N : News g L s.heap ((l, listOf xs n) :: news)) (hnl : ∀ p ∈ news, p.1 ≠ l) (hxs : xs.size ≤ 10) (hP : P.length ≤ 100)
    (h4 : ((Txt.slice P none (some 4)).cps.toList == (Str.ofString "(?!)").cps.toList) = false) (h1 : ((Txt.slice P none (some 1)).cps.toList == (Str.ofString "[").cps.toList) = false) (eA : Txt.slice P none (some 1) = A) (eR : Txt.slice P (some 1) none = R)
    (hret : ∀ h' tk' q t1 t2 t3 j, Fr g L h' (jm v0 (some (.str R t1)) (some (.ref l))) → News g L h' ((l, listOf (xs.push (.ref q)) j) :: (q, jtup (.str A t2) (.str A t3)) :: news) → (∀ p ∈ (q, jtup (.str A t2) (.str A t3)) :: news, p.1 ≠ l) → Q .next { s with heap := h', toks := tk' }) :
    wpAny (model PySem.Challenge.rw_in0246_01.row.prog w) ((⟨none, dp, fr, gd, un⟩ : Around).deeper (envOf (Str.ofString "_law_judges") jdScope L fa cd)) (execs jdTurn (envOf (Str.ofString "_law_judges") jdScope L fa cd)) Q E s := by
  revert X
  k_with_none
  k_fill
  (k_with "exec For Name Subscript cons nil" => (k_here; (rename Fr _ _ _ _ => lF'); (with_unfolding_all refine' For_invVF lF' ?k1 ?k2 ?_; (case k1 => exact rfl); (case k2 => exact rfl); k_whole)))
  (k_with "execs cons" => (first | (k_here; k_gentoks) | ((with_reducible refine Mine.execs_nx ?_); (try dsimp only))))
  (k_with "WhlPost" => dsimp only [Mine.Nx])
  (k_with "KswPost" => dsimp only [Mine.Nx])
  (k_with "InvPostN" => dsimp only [Mine.Nx])
  (k_with "UnrPost" => dsimp only [Mine.Nx])
  (k_with "storeName" => dsimp only)
  (k_with "compareOp Eq str str" => first | (refine' Mine.eq_lit (b := false) (by assumption) ?_; k_whole) | (refine' Mine.eq_lit (b := true) (by assumption) ?_; k_whole))
  (k_with "call builtin:list.append" => (k_here; (with_reducible show wpAny _ _ (call (Value.builtin _) [Value.ref _, _]) _ _ _); k_dflt (refine' append_K ?k1 ?k2 ?k3 ?_ ?z; (case k1 => k_asm); (case k2 => k_asm); (case k3 => exact Upd.tail (by k_ne) (Upd.head (by assumption))); (case z => (rw [PySem.sizeLine_eq]; omega)); k_whole); intro h' F' N'; (try k_sweep)))
  (k_with "exec While Name cons nil" => (k_dflt (refine whl_start 0 ?_)))
  (k_with "WhlRest" => refine Mine.hold ?_)
  (k_with "compareOp NotEq str str" => (refine' Mine.ne_lit (b := true) (by assumption) ?_; k_whole))
  intro X
  conv in (execs jdTurn _) =>
    arg 1
    whnf
  conv in (occs := *) (envOf _ jdScope _ _ _) =>
    all_goals (arg 2; whnf)
  (try k_fold)
  k_steps
  rename Fr _ _ _ _ => F'
  rename News _ _ _ _ => N'
  rename (_ ∧ AllLt _ _) => l1
  rw [eR] at F'
  rw [eA] at N'
  exact hret _ _ _ _ _ _ _ (fr_jm F' rfl rfl rfl (by (intros; repeat (first | (apply Mine.jmn <;> assumption) | refine Mine.ifn (by assumption) ?_)))) (news_swap N') (List.forall_mem_cons.mpr ⟨fun q => Nat.ne_of_lt l1.1 q.symm, hnl⟩)
/-- a bracket -/
theorem jd_br {w : World} {dp un : Nat} {fr : Option (List Env)} {gd : Option (List Code)} {p : Program} {loose : List Str} {mean : ExcName → Option Value} {mg mb : Str → Option Value} {s : Shared} {g : Heap} {L l fa : Addr} {cd : Value}
    {P R A B : Str} {n : Nat} {tr : Tok} {xs : Array Value} {v0 : Option Value} {news : List (Addr × Obj)} {Q : Flow → Shared → Prop} {E : Value → Shared → Prop}
    (X : (hd.heap_39 w.params).In g) (T : Top p loose mean mg mb g) (hdp : dp + 10 < recursionLimit) (hun : un + 40 < cLine)
    (F : Fr g L s.heap (jm v0 (some (.str P tr)) (some (.ref l)))) (N : News g L s.heap ((l, listOf xs n) :: news)) (hnl : ∀ p ∈ news, p.1 ≠ l) (hxs : xs.size ≤ 10) (hP : P.length ≤ 100)
    (h4 : ((Txt.slice P none (some 4)).cps.toList == (Str.ofString "(?!)").cps.toList) = false) (h1 : ((Txt.slice P none (some 1)).cps.toList == (Str.ofString "[").cps.toList) = true) (eA : Txt.slice P (some 1) (some 2) = A) (eB : Txt.slice P (some 3) (some 4) = B) (eR : Txt.slice P (some 5) none = R)
    (hret : ∀ h' tk' q t1 t2 t3 j, Fr g L h' (jm v0 (some (.str R t1)) (some (.ref l))) → News g L h' ((l, listOf (xs.push (.ref q)) j) :: (q, jtup (.str A t2) (.str B t3)) :: news) → (∀ p ∈ (q, jtup (.str A t2) (.str B t3)) :: news, p.1 ≠ l) → Q .next { s with heap := h', toks := tk' }) :
    wpAny (model PySem.Challenge.rw_in0246_01.row.prog w) ((⟨none, dp, fr, gd, un⟩ : Around).deeper (envOf (Str.ofString "_law_judges") jdScope L fa cd)) (execs jdTurn (envOf (Str.ofString "_law_judges") jdScope L fa cd)) Q E s := by
  revert X
  k_with_none
  k_fill
  (k_with "exec For Name Subscript cons nil" => (k_here; (rename Fr _ _ _ _ => lF'); (with_unfolding_all refine' For_invVF lF' ?k1 ?k2 ?_; (case k1 => exact rfl); (case k2 => exact rfl); k_whole)))
  (k_with "execs cons" => (first | (k_here; k_gentoks) | ((with_reducible refine Mine.execs_nx ?_); (try dsimp only))))
  (k_with "WhlPost" => dsimp only [Mine.Nx])
  (k_with "KswPost" => dsimp only [Mine.Nx])
  (k_with "InvPostN" => dsimp only [Mine.Nx])
  (k_with "UnrPost" => dsimp only [Mine.Nx])
  (k_with "storeName" => dsimp only)
  (k_with "compareOp Eq str str" => first | (refine' Mine.eq_lit (b := false) (by assumption) ?_; k_whole) | (refine' Mine.eq_lit (b := true) (by assumption) ?_; k_whole))
  (k_with "call builtin:list.append" => (k_here; (with_reducible show wpAny _ _ (call (Value.builtin _) [Value.ref _, _]) _ _ _); k_dflt (refine' append_K ?k1 ?k2 ?k3 ?_ ?z; (case k1 => k_asm); (case k2 => k_asm); (case k3 => exact Upd.tail (by k_ne) (Upd.head (by assumption))); (case z => (rw [PySem.sizeLine_eq]; omega)); k_whole); intro h' F' N'; (try k_sweep)))
  (k_with "exec While Name cons nil" => (k_dflt (refine whl_start 0 ?_)))
  (k_with "WhlRest" => refine Mine.hold ?_)
  (k_with "compareOp NotEq str str" => (refine' Mine.ne_lit (b := true) (by assumption) ?_; k_whole))
  intro X
  conv in (execs jdTurn _) =>
    arg 1
    whnf
  conv in (occs := *) (envOf _ jdScope _ _ _) =>
    all_goals (arg 2; whnf)
  (try k_fold)
  k_steps
  rename Fr _ _ _ _ => F'
  rename News _ _ _ _ => N'
  rename (_ ∧ AllLt _ _) => l1
  rw [eR] at F'
  rw [eA, eB] at N'
  exact hret _ _ _ _ _ _ _ (fr_jm F' rfl rfl rfl (by (intros; repeat (first | (apply Mine.jmn <;> assumption) | refine Mine.ifn (by assumption) ?_)))) (news_swap N') (List.forall_mem_cons.mpr ⟨fun q => Nat.ne_of_lt l1.1 q.symm, hnl⟩)
/-- what takes nothing -/
theorem jd_bad {w : World} {dp un : Nat} {fr : Option (List Env)} {gd : Option (List Code)} {p : Program} {loose : List Str} {mean : ExcName → Option Value} {mg mb : Str → Option Value} {s : Shared} {g : Heap} {L l fa : Addr} {cd : Value}
    {P R : Str} {n : Nat} {tr : Tok} {xs : Array Value} {v0 : Option Value} {news : List (Addr × Obj)} {Q : Flow → Shared → Prop} {E : Value → Shared → Prop}
    (X : (hd.heap_39 w.params).In g) (T : Top p loose mean mg mb g) (hdp : dp + 10 < recursionLimit) (hun : un + 40 < cLine)
    (F : Fr g L s.heap (jm v0 (some (.str P tr)) (some (.ref l)))) (N : News g L s.heap ((l, listOf xs n) :: news)) (hnl : ∀ p ∈ news, p.1 ≠ l) (hxs : xs.size ≤ 10) (hP : P.length ≤ 100)
    (h4 : ((Txt.slice P none (some 4)).cps.toList == (Str.ofString "(?!)").cps.toList) = true) (eR : Txt.slice P (some 4) none = R)
    (hret : ∀ h' tk' q t1 t2 t3 j, Fr g L h' (jm v0 (some (.str R t1)) (some (.ref l))) → News g L h' ((l, listOf (xs.push (.ref q)) j) :: (q, jtup (.str (Str.ofString "B") t2) (.str (Str.ofString "A") t3)) :: news) → (∀ p ∈ (q, jtup (.str (Str.ofString "B") t2) (.str (Str.ofString "A") t3)) :: news, p.1 ≠ l) → Q .next { s with heap := h', toks := tk' }) :
    wpAny (model PySem.Challenge.rw_in0246_01.row.prog w) ((⟨none, dp, fr, gd, un⟩ : Around).deeper (envOf (Str.ofString "_law_judges") jdScope L fa cd)) (execs jdTurn (envOf (Str.ofString "_law_judges") jdScope L fa cd)) Q E s := by
  revert X
  k_with_none
  k_fill
  (k_with "exec For Name Subscript cons nil" => (k_here; (rename Fr _ _ _ _ => lF'); (with_unfolding_all refine' For_invVF lF' ?k1 ?k2 ?_; (case k1 => exact rfl); (case k2 => exact rfl); k_whole)))
  (k_with "execs cons" => (first | (k_here; k_gentoks) | ((with_reducible refine Mine.execs_nx ?_); (try dsimp only))))
  (k_with "WhlPost" => dsimp only [Mine.Nx])
  (k_with "KswPost" => dsimp only [Mine.Nx])
  (k_with "InvPostN" => dsimp only [Mine.Nx])
  (k_with "UnrPost" => dsimp only [Mine.Nx])
  (k_with "storeName" => dsimp only)
  (k_with "compareOp Eq str str" => first | (refine' Mine.eq_lit (b := false) (by assumption) ?_; k_whole) | (refine' Mine.eq_lit (b := true) (by assumption) ?_; k_whole))
  (k_with "call builtin:list.append" => (k_here; (with_reducible show wpAny _ _ (call (Value.builtin _) [Value.ref _, _]) _ _ _); k_dflt (refine' append_K ?k1 ?k2 ?k3 ?_ ?z; (case k1 => k_asm); (case k2 => k_asm); (case k3 => exact Upd.tail (by k_ne) (Upd.head (by assumption))); (case z => (rw [PySem.sizeLine_eq]; omega)); k_whole); intro h' F' N'; (try k_sweep)))
  (k_with "exec While Name cons nil" => (k_dflt (refine whl_start 0 ?_)))
  (k_with "WhlRest" => refine Mine.hold ?_)
  (k_with "compareOp NotEq str str" => (refine' Mine.ne_lit (b := true) (by assumption) ?_; k_whole))
  intro X
  conv in (execs jdTurn _) =>
    arg 1
    whnf
  conv in (occs := *) (envOf _ jdScope _ _ _) =>
    all_goals (arg 2; whnf)
  (try k_fold)
  k_steps
  rename Fr _ _ _ _ => F'
  rename News _ _ _ _ => N'
  rename (_ ∧ AllLt _ _) => l1
  rw [eR] at F'
  exact hret _ _ _ _ _ _ _ (fr_jm F' rfl rfl rfl (by (intros; repeat (first | (apply Mine.jmn <;> assumption) | refine Mine.ifn (by assumption) ?_)))) (news_swap N') (List.forall_mem_cons.mpr ⟨fun q => Nat.ne_of_lt l1.1 q.symm, hnl⟩)
/-- the loop goes on -/
theorem jd_yes {w : World} {dp un : Nat} {fr : Option (List Env)} {gd : Option (List Code)} {p : Program} {loose : List Str} {mean : ExcName → Option Value} {mg mb : Str → Option Value} {s : Shared} {g : Heap} {L l fa : Addr} {cd : Value}
    {P : Str} {tr : Tok} {v0 v2 : Option Value} {news : List (Addr × Obj)} {Q : Flow → Shared → Prop}
    (X : (hd.heap_39 w.params).In g) (T : Top p loose mean mg mb g) (hdp : dp + 10 < recursionLimit) (hun : un + 40 < cLine)
    (F : Fr g L s.heap (jm v0 (some (.str P tr)) v2)) (N : News g L s.heap news) (hP : P.length ≤ 100)
    (hP1 : 0 < P.length) (h : ∀ tk', wpAny (model PySem.Challenge.rw_in0246_01.row.prog w) ((⟨none, dp, fr, gd, un⟩ : Around).deeper (envOf (Str.ofString "_law_judges") jdScope L fa cd)) (execs jdTurn (envOf (Str.ofString "_law_judges") jdScope L fa cd)) (WhlPost PySem.Challenge.rw_in0246_01.row.prog w ((⟨none, dp, fr, gd, un⟩ : Around).deeper (envOf (Str.ofString "_law_judges") jdScope L fa cd)) (fun _ _ => False) (envOf (Str.ofString "_law_judges") jdScope L fa cd) jdTest jdTurn [] Q 0) (fun _ _ => False) { s with toks := tk' }) :
    WhlRest PySem.Challenge.rw_in0246_01.row.prog w ((⟨none, dp, fr, gd, un⟩ : Around).deeper (envOf (Str.ofString "_law_judges") jdScope L fa cd)) (fun _ _ => False) (envOf (Str.ofString "_law_judges") jdScope L fa cd) jdTest jdTurn [] Q 0 s := by
  revert X
  k_with_none
  k_fill
  (k_with "exec For Name Subscript cons nil" => (k_here; (rename Fr _ _ _ _ => lF'); (with_unfolding_all refine' For_invVF lF' ?k1 ?k2 ?_; (case k1 => exact rfl); (case k2 => exact rfl); k_whole)))
  (k_with "execs cons" => (first | (k_here; k_gentoks) | ((with_reducible refine Mine.execs_nx ?_); (try dsimp only))))
  (k_with "WhlPost" => dsimp only [Mine.Nx])
  (k_with "KswPost" => dsimp only [Mine.Nx])
  (k_with "InvPostN" => dsimp only [Mine.Nx])
  (k_with "UnrPost" => dsimp only [Mine.Nx])
  (k_with "storeName" => dsimp only)
  (k_with "compareOp Eq str str" => first | (refine' Mine.eq_lit (b := false) (by assumption) ?_; k_whole) | (refine' Mine.eq_lit (b := true) (by assumption) ?_; k_whole))
  (k_with "call builtin:list.append" => (k_here; (with_reducible show wpAny _ _ (call (Value.builtin _) [Value.ref _, _]) _ _ _); k_dflt (refine' append_K ?k1 ?k2 ?k3 ?_ ?z; (case k1 => k_asm); (case k2 => k_asm); (case k3 => exact Upd.tail (by k_ne) (Upd.head (by assumption))); (case z => (rw [PySem.sizeLine_eq]; omega)); k_whole); intro h' F' N'; (try k_sweep)))
  (k_with "exec While Name cons nil" => (k_dflt (refine whl_start 0 ?_)))
  (k_with "WhlRest" => refine Mine.hold ?_)
  (k_with "compareOp NotEq str str" => (refine' Mine.ne_lit (b := true) (by assumption) ?_; k_whole))
  intro X
  refine (whl_turn (k := 0) ?hE ?_ : WhlRest _ _ _ _ _ _ _ _ _ (0 + 1) _)
  case hE => first | passes_own | with_unfolding_all passes_own
  conv in (isTrue jdTest _ _) =>
    arg 1
    whnf
  conv in (eval jdTest _) =>
    arg 1
    whnf
  conv in (occs := *) (envOf _ jdScope _ _ _) =>
    all_goals (arg 2; whnf)
  (try k_fold)
  k_steps
  exact WhlIf.yes (bne_iff_ne.mpr (by omega)) (h _)
/-- the loop ends -/
theorem jd_no {w : World} {dp un : Nat} {fr : Option (List Env)} {gd : Option (List Code)} {p : Program} {loose : List Str} {mean : ExcName → Option Value} {mg mb : Str → Option Value} {s : Shared} {g : Heap} {L l fa : Addr} {cd : Value}
    {P : Str} {tr : Tok} {v0 v2 : Option Value} {news : List (Addr × Obj)} {Q : Flow → Shared → Prop}
    (X : (hd.heap_39 w.params).In g) (T : Top p loose mean mg mb g) (hdp : dp + 10 < recursionLimit) (hun : un + 40 < cLine)
    (F : Fr g L s.heap (jm v0 (some (.str P tr)) v2)) (N : News g L s.heap news) (hP : P.length ≤ 100)
    (hP0 : P.length = 0) (h : ∀ tk', Q .next { s with toks := tk' }) :
    WhlRest PySem.Challenge.rw_in0246_01.row.prog w ((⟨none, dp, fr, gd, un⟩ : Around).deeper (envOf (Str.ofString "_law_judges") jdScope L fa cd)) (fun _ _ => False) (envOf (Str.ofString "_law_judges") jdScope L fa cd) jdTest jdTurn [] Q 0 s := by
  revert X
  k_with_none
  k_fill
  (k_with "exec For Name Subscript cons nil" => (k_here; (rename Fr _ _ _ _ => lF'); (with_unfolding_all refine' For_invVF lF' ?k1 ?k2 ?_; (case k1 => exact rfl); (case k2 => exact rfl); k_whole)))
  (k_with "execs cons" => (first | (k_here; k_gentoks) | ((with_reducible refine Mine.execs_nx ?_); (try dsimp only))))
  (k_with "WhlPost" => dsimp only [Mine.Nx])
  (k_with "KswPost" => dsimp only [Mine.Nx])
  (k_with "InvPostN" => dsimp only [Mine.Nx])
  (k_with "UnrPost" => dsimp only [Mine.Nx])
  (k_with "storeName" => dsimp only)
  (k_with "compareOp Eq str str" => first | (refine' Mine.eq_lit (b := false) (by assumption) ?_; k_whole) | (refine' Mine.eq_lit (b := true) (by assumption) ?_; k_whole))
  (k_with "call builtin:list.append" => (k_here; (with_reducible show wpAny _ _ (call (Value.builtin _) [Value.ref _, _]) _ _ _); k_dflt (refine' append_K ?k1 ?k2 ?k3 ?_ ?z; (case k1 => k_asm); (case k2 => k_asm); (case k3 => exact Upd.tail (by k_ne) (Upd.head (by assumption))); (case z => (rw [PySem.sizeLine_eq]; omega)); k_whole); intro h' F' N'; (try k_sweep)))
  (k_with "exec While Name cons nil" => (k_dflt (refine whl_start 0 ?_)))
  (k_with "WhlRest" => refine Mine.hold ?_)
  (k_with "compareOp NotEq str str" => (refine' Mine.ne_lit (b := true) (by assumption) ?_; k_whole))
  intro X
  refine (whl_turn (k := 0) ?hE ?_ : WhlRest _ _ _ _ _ _ _ _ _ (0 + 1) _)
  case hE => first | passes_own | with_unfolding_all passes_own
  conv in (isTrue jdTest _ _) =>
    arg 1
    whnf
  conv in (eval jdTest _) =>
    arg 1
    whnf
  conv in (occs := *) (envOf _ jdScope _ _ _) =>
    all_goals (arg 2; whnf)
  (try k_fold)
  k_steps
  exact WhlIf.no (by rw [hP0]; rfl) (wpAny_execs_nil (h _))
end Mine
namespace Mine
theorem look1 {z n : Str} {v : Value} (a : z ≠ n) : List.lookup z [(n, v)] = none := by
  have e : (z == n) = false := by
    cases q : (z == n) with
    | true => exact absurd (eq_of_beq q) a
    | false => rfl
  simp only [List.lookup, e]
/-- the call, up to its loop -/
theorem jd_call {w : World} {dp un : Nat} {fr : Option (List Env)} {gd : Option (List Code)} {p : Program} {loose : List Str} {mean : ExcName → Option Value} {mg mb : Str → Option Value} {s : Shared} {P R : Str} {tp : Tok} {Q E : Value → Shared → Prop} :
   (hd.heap_39 w.params).In s.heap → Top p loose mean mg mb s.heap → dp + 10 < recursionLimit → un + 40 < cLine → P.length ≤ 100 →
   ((Txt.slice P none (some 10)).cps.toList == (Str.ofString "(?s:(?>.*?").cps.toList) = true → ((Txt.slice P (some (-6)) none).cps.toList == (Str.ofString ").*)\\Z").cps.toList) = true → Txt.slice P (some 10) (some (-6)) = R →
   (∀ L fa cd h' tk' l t1 (Q1 : Flow → Shared → Prop), Fr s.heap L h' (jm (some (.str P tp)) (some (.str R t1)) (some (.ref l))) → News s.heap L h' [(l, listOf #[] 0)] →
     (∀ h'' tk'' v1, Fr s.heap L h'' (jm (some (.str P tp)) v1 (some (.ref l))) → Q (.ref l) { s with heap := h'', toks := tk'' } → Q1 .next { s with heap := h'', toks := tk'' }) → WhlRest PySem.Challenge.rw_in0246_01.row.prog w ((⟨none, dp, fr, gd, un⟩ : Around).deeper (envOf (Str.ofString "_law_judges") jdScope L fa cd)) (fun _ _ => False) (envOf (Str.ofString "_law_judges") jdScope L fa cd) jdTest jdTurn [] Q1 0 { s with heap := h', toks := tk' }) →
   wpAny (model PySem.Challenge.rw_in0246_01.row.prog w) ⟨none, dp, fr, gd, un⟩ (call (.ref 149) [.str P tp]) Q E s := by
  k_with_none
  k_fill
  (k_with "exec For Name Subscript cons nil" => (k_here; (rename Fr _ _ _ _ => lF'); (with_unfolding_all refine' For_invVF lF' ?k1 ?k2 ?_; (case k1 => exact rfl); (case k2 => exact rfl); k_whole)))
  (k_with "execs cons" => (first | (k_here; k_gentoks) | ((with_reducible refine Mine.execs_nx ?_); (try dsimp only))))
  (k_with "WhlPost" => dsimp only [Mine.Nx])
  (k_with "KswPost" => dsimp only [Mine.Nx])
  (k_with "InvPostN" => dsimp only [Mine.Nx])
  (k_with "UnrPost" => dsimp only [Mine.Nx])
  (k_with "storeName" => dsimp only)
  (k_with "compareOp Eq str str" => first | (refine' Mine.eq_lit (b := false) (by assumption) ?_; k_whole) | (refine' Mine.eq_lit (b := true) (by assumption) ?_; k_whole))
  (k_with "call builtin:list.append" => (k_here; (with_reducible show wpAny _ _ (call (Value.builtin _) [Value.ref _, _]) _ _ _); k_dflt (refine' append_K ?k1 ?k2 ?k3 ?_ ?z; (case k1 => k_asm); (case k2 => k_asm); (case k3 => exact Upd.tail (by k_ne) (Upd.head (by assumption))); (case z => (rw [PySem.sizeLine_eq]; omega)); k_whole); intro h' F' N'; (try k_sweep)))
  (k_with "exec While Name cons nil" => (k_dflt (refine whl_start 0 ?_)))
  (k_with "WhlRest" => refine Mine.hold ?_)
  (k_with "compareOp NotEq str str" => (refine' Mine.ne_lit (b := true) (by assumption) ?_; k_whole))
  intro X T hdp hun hP h10 h6 eR hret
  k_dflt ((refine' Mine.enter (by assumption) (by assumption) ?ck ?cs ?ho ?hcd ?hroom ?hbind ?hloc ?c2 ?c3 ?c4 ?c5 ?_; (case ho => k_is); (case hcd => k_is); (case hbind => exact BindsTo.of_eq rfl); (case hloc => exact locs rfl); (case c2 => exact rfl); (case c3 => exact rfl); (case c4 => exact rfl); (case c5 => decide)))
  case ck => exact fun _ _ e => e
  case cs => exact Nat.le_refl _
  case hroom => exact Mine.rm (j := 0) hdp rfl
  intro L h₁ hL F hk
  have N : News s.heap L h₁ [] := News.nil
  clear hL hk
  (try dsimp only)
  (try k_fold)
  k_steps
  refine unhold ?_
  rename Fr _ _ _ _ => F'
  rename News _ _ _ _ => N'
  rw [eR] at F'
  have F9 : Fr s.heap L _ (jm (some (.str P tp)) (some (.str R _)) (some (.ref _))) := fr_jm F' rfl rfl rfl (by intro z a0 a1 a2; exact ifn a1 (ifn a2 (look1 a0)))
  refine hret L 149 (.ref 148) _ _ _ _ _ F9 (fun z hz => N' z (.tail _ hz)) ?_
  clear F' N' F9 hret
  intro h9 tk9 v9 F9 hq
  k_steps
  exact hq
end Mine
end
section
namespace Mine
theorem judges2_spec {w : World} {dp un : Nat} {fr : Option (List Env)} {gd : Option (List Code)} {p : Program} {loose : List Str} {mean : ExcName → Option Value} {mg mb : Str → Option Value} {s : Shared} {x y : Nat} {tx : Tok} {Q E : Value → Shared → Prop} :
   (hd.heap_39 w.params).In s.heap → Top p loose mean mg mb s.heap → dp + 10 < recursionLimit → un + 40 < cLine →
   66 ≤ x → x ≤ 76 → 66 ≤ y → y ≤ 76 →
   (∀ r vs n' h' tk', (∀ b o, s.heap.get? b = some o → h'.get? b = some o) → s.heap.get? r = none → h'.get? r = some (listOf vs n') → JAt h' vs [(x, x), (y, x)] → (∀ (i : Nat) q, vs[i]? = some (Value.ref q) → s.heap.get? q = none) → Q (.ref r) { s with heap := h', toks := tk' }) →
   wpAny (model PySem.Challenge.rw_in0246_01.row.prog w) ⟨none, dp, fr, gd, un⟩ (call (.ref 149) [.str ⟨#[40, 63, 115, 58, 40, 63, 62, 46, 42, 63, x, 91, y, 45, x, 93, 41, 46, 42, 41, 92, 90]⟩ tx]) Q E s := by
  intro X T hdp hun hx0 hx1 hy0 hy1 hret
  refine jd_call (R := ⟨#[x, 91, y, 45, x, 93]⟩) X T hdp hun (Nat.le_of_ble_eq_true rfl) (by with_unfolding_all rfl) (by with_unfolding_all rfl) (by with_unfolding_all rfl) ?_
  intro L fa cd h0 tk0 l t0 Q1 F0 N0 hfin
  have D0 : ∀ p ∈ ([] : List (Addr × Obj)), p.1 ≠ l := List.forall_mem_nil _
  refine jd_yes (l := l) (s := ⟨h0, s.gens, s.drawn, tk0, s.os⟩) X T hdp hun F0 N0 (Nat.le_of_ble_eq_true rfl) (Nat.le_of_ble_eq_true rfl) fun tz0 => ?_
  refine jd_let (R := ⟨#[91, y, 45, x, 93]⟩) (A := ⟨#[x]⟩) (s := ⟨h0, s.gens, s.drawn, tz0, s.os⟩) X T hdp hun F0 N0 D0 (Nat.le_of_ble_eq_true rfl) (Nat.le_of_ble_eq_true rfl) (by rw [show Txt.slice ⟨#[x, 91, y, 45, x, 93]⟩ none (some 4) = ⟨#[x, 91, y, 45]⟩ by with_unfolding_all rfl]; exact head_ne (by omega)) (by rw [show Txt.slice ⟨#[x, 91, y, 45, x, 93]⟩ none (some 1) = ⟨#[x]⟩ by with_unfolding_all rfl]; exact one_ne lit_open (by omega)) (by with_unfolding_all rfl) (by with_unfolding_all rfl) ?_
  intro h1 tk1 q1 a1 b1 c1 j1 F1 N1 D1
  refine jd_yes (l := l) (s := ⟨h1, s.gens, s.drawn, tk1, s.os⟩) X T hdp hun F1 N1 (Nat.le_of_ble_eq_true rfl) (Nat.le_of_ble_eq_true rfl) fun tz1 => ?_
  refine jd_br (R := ⟨#[]⟩) (A := ⟨#[y]⟩) (B := ⟨#[x]⟩) (s := ⟨h1, s.gens, s.drawn, tz1, s.os⟩) X T hdp hun F1 N1 D1 (Nat.le_of_ble_eq_true rfl) (Nat.le_of_ble_eq_true rfl) (by rw [show Txt.slice ⟨#[91, y, 45, x, 93]⟩ none (some 4) = ⟨#[91, y, 45, x]⟩ by with_unfolding_all rfl]; exact head_ne (by decide)) (by with_unfolding_all rfl) (by with_unfolding_all rfl) (by with_unfolding_all rfl) (by with_unfolding_all rfl) ?_
  intro h2 tk2 q2 a2 b2 c2 j2 F2 N2 D2
  refine jd_no (l := l) (s := ⟨h2, s.gens, s.drawn, tk2, s.os⟩) X T hdp hun F2 N2 (Nat.le_of_ble_eq_true rfl) rfl fun tz2 => ?_
  refine hfin _ _ _ F2 (hret l #[.ref q1, .ref q2] _ _ _ F2.keep (N2 _ (.head _)).2.2 (News.get N2 (.head _)) (jat_two ⟨_, News.get N2 (.tail _ (.tail _ (.head _))), rfl, _, rfl⟩ ⟨_, News.get N2 (.tail _ (.head _)), rfl, _, rfl⟩) ?_)
  intro i q h
  match i, h with
  | 0, h =>
    cases h
    exact (N2 _ (.tail _ (.tail _ (.head _)))).2.2
  | 1, h =>
    cases h
    exact (N2 _ (.tail _ (.head _))).2.2
  | i + 2, h => simp at h
theorem judges2b_spec {w : World} {dp un : Nat} {fr : Option (List Env)} {gd : Option (List Code)} {p : Program} {loose : List Str} {mean : ExcName → Option Value} {mg mb : Str → Option Value} {s : Shared} {x : Nat} {tx : Tok} {Q E : Value → Shared → Prop} :
   (hd.heap_39 w.params).In s.heap → Top p loose mean mg mb s.heap → dp + 10 < recursionLimit → un + 40 < cLine →
   66 ≤ x → x ≤ 76 →
   (∀ r vs n' h' tk', (∀ b o, s.heap.get? b = some o → h'.get? b = some o) → s.heap.get? r = none → h'.get? r = some (listOf vs n') → JAt h' vs [(x, x), (66, 65)] → (∀ (i : Nat) q, vs[i]? = some (Value.ref q) → s.heap.get? q = none) → Q (.ref r) { s with heap := h', toks := tk' }) →
   wpAny (model PySem.Challenge.rw_in0246_01.row.prog w) ⟨none, dp, fr, gd, un⟩ (call (.ref 149) [.str ⟨#[40, 63, 115, 58, 40, 63, 62, 46, 42, 63, x, 40, 63, 33, 41, 41, 46, 42, 41, 92, 90]⟩ tx]) Q E s := by
  intro X T hdp hun hx0 hx1 hret
  refine jd_call (R := ⟨#[x, 40, 63, 33, 41]⟩) X T hdp hun (Nat.le_of_ble_eq_true rfl) (by with_unfolding_all rfl) (by with_unfolding_all rfl) (by with_unfolding_all rfl) ?_
  intro L fa cd h0 tk0 l t0 Q1 F0 N0 hfin
  have D0 : ∀ p ∈ ([] : List (Addr × Obj)), p.1 ≠ l := List.forall_mem_nil _
  refine jd_yes (l := l) (s := ⟨h0, s.gens, s.drawn, tk0, s.os⟩) X T hdp hun F0 N0 (Nat.le_of_ble_eq_true rfl) (Nat.le_of_ble_eq_true rfl) fun tz0 => ?_
  refine jd_let (R := ⟨#[40, 63, 33, 41]⟩) (A := ⟨#[x]⟩) (s := ⟨h0, s.gens, s.drawn, tz0, s.os⟩) X T hdp hun F0 N0 D0 (Nat.le_of_ble_eq_true rfl) (Nat.le_of_ble_eq_true rfl) (by rw [show Txt.slice ⟨#[x, 40, 63, 33, 41]⟩ none (some 4) = ⟨#[x, 40, 63, 33]⟩ by with_unfolding_all rfl]; exact head_ne (by omega)) (by rw [show Txt.slice ⟨#[x, 40, 63, 33, 41]⟩ none (some 1) = ⟨#[x]⟩ by with_unfolding_all rfl]; exact one_ne lit_open (by omega)) (by with_unfolding_all rfl) (by with_unfolding_all rfl) ?_
  intro h1 tk1 q1 a1 b1 c1 j1 F1 N1 D1
  refine jd_yes (l := l) (s := ⟨h1, s.gens, s.drawn, tk1, s.os⟩) X T hdp hun F1 N1 (Nat.le_of_ble_eq_true rfl) (Nat.le_of_ble_eq_true rfl) fun tz1 => ?_
  refine jd_bad (R := ⟨#[]⟩) (s := ⟨h1, s.gens, s.drawn, tz1, s.os⟩) X T hdp hun F1 N1 D1 (Nat.le_of_ble_eq_true rfl) (Nat.le_of_ble_eq_true rfl) (by with_unfolding_all rfl) (by with_unfolding_all rfl) ?_
  intro h2 tk2 q2 a2 b2 c2 j2 F2 N2 D2
  refine jd_no (l := l) (s := ⟨h2, s.gens, s.drawn, tk2, s.os⟩) X T hdp hun F2 N2 (Nat.le_of_ble_eq_true rfl) rfl fun tz2 => ?_
  refine hfin _ _ _ F2 (hret l #[.ref q1, .ref q2] _ _ _ F2.keep (N2 _ (.head _)).2.2 (News.get N2 (.head _)) (jat_two ⟨_, News.get N2 (.tail _ (.tail _ (.head _))), rfl, _, rfl⟩ ⟨_, News.get N2 (.tail _ (.head _)), rfl, _, rfl⟩) ?_)
  intro i q h
  match i, h with
  | 0, h =>
    cases h
    exact (N2 _ (.tail _ (.tail _ (.head _)))).2.2
  | 1, h =>
    cases h
    exact (N2 _ (.tail _ (.head _))).2.2
  | i + 2, h => simp at h
theorem judges3_spec {w : World} {dp un : Nat} {fr : Option (List Env)} {gd : Option (List Code)} {p : Program} {loose : List Str} {mean : ExcName → Option Value} {mg mb : Str → Option Value} {s : Shared} {x y z : Nat} {tx : Tok} {Q E : Value → Shared → Prop} :
   (hd.heap_39 w.params).In s.heap → Top p loose mean mg mb s.heap → dp + 10 < recursionLimit → un + 40 < cLine →
   66 ≤ x → x ≤ 76 → 66 ≤ y → y ≤ 76 → 66 ≤ z → z ≤ 76 →
   (∀ r vs n' h' tk', (∀ b o, s.heap.get? b = some o → h'.get? b = some o) → s.heap.get? r = none → h'.get? r = some (listOf vs n') → JAt h' vs [(x, x), (y, y), (z, x)] → (∀ (i : Nat) q, vs[i]? = some (Value.ref q) → s.heap.get? q = none) → Q (.ref r) { s with heap := h', toks := tk' }) →
   wpAny (model PySem.Challenge.rw_in0246_01.row.prog w) ⟨none, dp, fr, gd, un⟩ (call (.ref 149) [.str ⟨#[40, 63, 115, 58, 40, 63, 62, 46, 42, 63, x, y, 91, z, 45, x, 93, 41, 46, 42, 41, 92, 90]⟩ tx]) Q E s := by
  intro X T hdp hun hx0 hx1 hy0 hy1 hz0 hz1 hret
  refine jd_call (R := ⟨#[x, y, 91, z, 45, x, 93]⟩) X T hdp hun (Nat.le_of_ble_eq_true rfl) (by with_unfolding_all rfl) (by with_unfolding_all rfl) (by with_unfolding_all rfl) ?_
  intro L fa cd h0 tk0 l t0 Q1 F0 N0 hfin
  have D0 : ∀ p ∈ ([] : List (Addr × Obj)), p.1 ≠ l := List.forall_mem_nil _
  refine jd_yes (l := l) (s := ⟨h0, s.gens, s.drawn, tk0, s.os⟩) X T hdp hun F0 N0 (Nat.le_of_ble_eq_true rfl) (Nat.le_of_ble_eq_true rfl) fun tz0 => ?_
  refine jd_let (R := ⟨#[y, 91, z, 45, x, 93]⟩) (A := ⟨#[x]⟩) (s := ⟨h0, s.gens, s.drawn, tz0, s.os⟩) X T hdp hun F0 N0 D0 (Nat.le_of_ble_eq_true rfl) (Nat.le_of_ble_eq_true rfl) (by rw [show Txt.slice ⟨#[x, y, 91, z, 45, x, 93]⟩ none (some 4) = ⟨#[x, y, 91, z]⟩ by with_unfolding_all rfl]; exact head_ne (by omega)) (by rw [show Txt.slice ⟨#[x, y, 91, z, 45, x, 93]⟩ none (some 1) = ⟨#[x]⟩ by with_unfolding_all rfl]; exact one_ne lit_open (by omega)) (by with_unfolding_all rfl) (by with_unfolding_all rfl) ?_
  intro h1 tk1 q1 a1 b1 c1 j1 F1 N1 D1
  refine jd_yes (l := l) (s := ⟨h1, s.gens, s.drawn, tk1, s.os⟩) X T hdp hun F1 N1 (Nat.le_of_ble_eq_true rfl) (Nat.le_of_ble_eq_true rfl) fun tz1 => ?_
  refine jd_let (R := ⟨#[91, z, 45, x, 93]⟩) (A := ⟨#[y]⟩) (s := ⟨h1, s.gens, s.drawn, tz1, s.os⟩) X T hdp hun F1 N1 D1 (Nat.le_of_ble_eq_true rfl) (Nat.le_of_ble_eq_true rfl) (by rw [show Txt.slice ⟨#[y, 91, z, 45, x, 93]⟩ none (some 4) = ⟨#[y, 91, z, 45]⟩ by with_unfolding_all rfl]; exact head_ne (by omega)) (by rw [show Txt.slice ⟨#[y, 91, z, 45, x, 93]⟩ none (some 1) = ⟨#[y]⟩ by with_unfolding_all rfl]; exact one_ne lit_open (by omega)) (by with_unfolding_all rfl) (by with_unfolding_all rfl) ?_
  intro h2 tk2 q2 a2 b2 c2 j2 F2 N2 D2
  refine jd_yes (l := l) (s := ⟨h2, s.gens, s.drawn, tk2, s.os⟩) X T hdp hun F2 N2 (Nat.le_of_ble_eq_true rfl) (Nat.le_of_ble_eq_true rfl) fun tz2 => ?_
  refine jd_br (R := ⟨#[]⟩) (A := ⟨#[z]⟩) (B := ⟨#[x]⟩) (s := ⟨h2, s.gens, s.drawn, tz2, s.os⟩) X T hdp hun F2 N2 D2 (Nat.le_of_ble_eq_true rfl) (Nat.le_of_ble_eq_true rfl) (by rw [show Txt.slice ⟨#[91, z, 45, x, 93]⟩ none (some 4) = ⟨#[91, z, 45, x]⟩ by with_unfolding_all rfl]; exact head_ne (by decide)) (by with_unfolding_all rfl) (by with_unfolding_all rfl) (by with_unfolding_all rfl) (by with_unfolding_all rfl) ?_
  intro h3 tk3 q3 a3 b3 c3 j3 F3 N3 D3
  refine jd_no (l := l) (s := ⟨h3, s.gens, s.drawn, tk3, s.os⟩) X T hdp hun F3 N3 (Nat.le_of_ble_eq_true rfl) rfl fun tz3 => ?_
  refine hfin _ _ _ F3 (hret l #[.ref q1, .ref q2, .ref q3] _ _ _ F3.keep (N3 _ (.head _)).2.2 (News.get N3 (.head _)) (jat_three ⟨_, News.get N3 (.tail _ (.tail _ (.tail _ (.head _)))), rfl, _, rfl⟩ ⟨_, News.get N3 (.tail _ (.tail _ (.head _))), rfl, _, rfl⟩ ⟨_, News.get N3 (.tail _ (.head _)), rfl, _, rfl⟩) ?_)
  intro i q h
  match i, h with
  | 0, h =>
    cases h
    exact (N3 _ (.tail _ (.tail _ (.tail _ (.head _))))).2.2
  | 1, h =>
    cases h
    exact (N3 _ (.tail _ (.tail _ (.head _)))).2.2
  | 2, h =>
    cases h
    exact (N3 _ (.tail _ (.head _))).2.2
  | i + 3, h => simp at h
end Mine
end
section
namespace Mine
def rng (l : Nat → Nat) (r K : Nat) : List Int := (List.range K).map fun k => (cnt l r k 0 : Int)
section
variable {l : Nat → Nat} {r : Nat}
theorem rng_succ {K : Nat} : rng l r (K + 1) = rng l r K ++ [(cnt l r K 0 : Int)] := by
  unfold rng
  rw [List.range_succ, List.map_append]
  rfl
theorem nat_fdiv (a b : Nat) : Int.fdiv (a : Int) (b : Int) = ((a / b : Nat) : Int) := by
  rw [Int.fdiv_eq_ediv_of_nonneg _ (by (first | lia | omega))]; rfl
theorem nat_fmod (a b : Nat) : Int.fmod (a : Int) (b : Int) = ((a % b : Nat) : Int) := by
  rw [Int.fmod_eq_emod_of_nonneg _ (by (first | lia | omega))]; rfl
theorem greedy_fold : ∀ (K : Nat) (acc v : Nat), ((rng l r K).reverse.foldl gStep ((acc : Int), (v : Int))).1 = ((acc * 16 ^ K + gd l r K v : Nat) : Int)
  | 0, acc, v => by simp [rng, gd]
  | K + 1, acc, v => by
    rw [rng_succ, List.reverse_append, List.reverse_singleton, List.singleton_append, List.foldl_cons]
    have e : gStep ((acc : Int), (v : Int)) (cnt l r K 0 : Int) = (((acc * 16 + v / cnt l r K 0 : Nat) : Int), ((v % cnt l r K 0 : Nat) : Int)) := by
      unfold gStep
      dsimp only
      rw [nat_fdiv, nat_fmod]
      simp
    rw [e, greedy_fold K]
    congr 1
    show _ = acc * 16 ^ (K + 1) + (v / cnt l r K 0 * 16 ^ K + gd l r K (v % cnt l r K 0))
    rw [Nat.add_mul, Nat.pow_succ, Nat.mul_assoc, Nat.mul_comm 16, Nat.add_assoc]
theorem greedy_rng (K v : Nat) : greedyI (v : Int) (rng l r K) = (gd l r K v : Int) := by
  have := greedy_fold (l := l) (r := r) K 0 v
  unfold greedyI
  rw [show ((0 : Int), (v : Int)) = (((0 : Nat) : Int), (v : Int)) from rfl, this]
  simp
theorem value_fold (n : Nat) : ∀ K, (rng l r K).foldl vStep ((0 : Int), (n : Int)) = (((vl l r K (n % 16 ^ K) : Nat) : Int), ((n / 16 ^ K : Nat) : Int))
  | 0 => by simp [rng, vl]
  | K + 1 => by
    rw [rng_succ, List.foldl_append, value_fold n K]
    show vStep _ _ = _
    unfold vStep
    dsimp only
    rw [show (16 : Int) = ((16 : Nat) : Int) from rfl, nat_fdiv, nat_fmod, Nat.div_div_eq_div_mul, ← Nat.pow_succ]
    congr 1
    rw [vl_succ]
    have h1 : n % 16 ^ (K + 1) = n / 16 ^ K % 16 * 16 ^ K + n % 16 ^ K := by
      rw [Nat.pow_succ, Nat.mod_mul, Nat.mul_comm (16 ^ K), Nat.add_comm]
    have h2 := split16 (k := K) (d := n / 16 ^ K % 16) (Nat.mod_lt n (p16 K))
    rw [h1, h2.1, h2.2]
    simp
    (first | lia | omega)
theorem value_rng {K n : Nat} (hn : n < 16 ^ K) : valueI (n : Int) (rng l r K) = (vl l r K n : Int) := by
  unfold valueI
  rw [value_fold n K, Nat.mod_eq_of_lt hn]
variable {root i k0 n0 K S T : Nat}
/-- what is known of the sizes -/
structure Fits (l : Nat → Nat) (r i K S : Nat) : Prop where
  s5 : S ≤ 5
  nine : 9 ≤ tot l r i (S + 1)
  small : 41 * cnt l r S 0 < 100000
  big : 100000 ≤ cnt l r K 0
theorem row_low (R : Rt l r root i k0 n0) (f : Fits l r i K S) (hn : n0 ≤ 40) {s c : Nat} (hs : tot l r i s < 9) (hc : c ≤ cnt l r s i) : s ≤ S ∧ lv l r root k0 s + c < cnt l r K 0 := by
  have h1 : s ≤ S := by
    rcases Nat.lt_or_ge S s with h | h
    · have := tot_mono (l := l) (r := r) (i := i) (show S + 1 ≤ s from h)
      have := f.nine
      (first | lia | omega)
    · exact h
  refine ⟨h1, ?_⟩
  have h2 := lv_le R s
  have h3 : cnt l r s 0 ≤ cnt l r S 0 := by have := cnt_mono' R.lim (k := s) (S - s); rwa [show s + (S - s) = S by (first | lia | omega)] at this
  have h4 := Nat.mul_le_mul hn h3
  have h5 := cnt_le R.lim s i
  have := f.small
  have := f.big
  (first | lia | omega)
theorem row_run (R : Rt l r root i k0 n0) (f : Fits l r i K S) (hn : n0 ≤ 40) (hT : (upTo l r root T).length = 9) : ∀ m s c, c ≤ cnt l r s i → (upTo l r root (wd l r root i s c)).length + m = 9 →
    ∃ k, RowRun (rng l r K) (root : Int) 9 ((upTo l r root T).map Int.ofNat) k ((upTo l r root (wd l r root i s c)).map Int.ofNat) ((16 ^ s : Nat) : Int) ((lv l r root k0 s + c : Nat) : Int) := by
  intro m
  induction m with
  | zero =>
    intro s c hc hl
    refine ⟨0, .done ?_ ?_⟩
    · rw [List.length_map]; (first | lia | omega)
    · rw [upTo_uniq (show (upTo l r root (wd l r root i s c)).length = (upTo l r root T).length by (first | lia | omega))]
  | succ m ih =>
    have hit : ∀ s c, c < cnt l r s i → (upTo l r root (wd l r root i s c)).length + (m + 1) = 9 →
        ∃ k, RowRun (rng l r K) (root : Int) 9 ((upTo l r root T).map Int.ofNat) k ((upTo l r root (wd l r root i s c)).map Int.ofNat) ((16 ^ s : Nat) : Int) ((lv l r root k0 s + c : Nat) : Int) := by
      intro s c hc hl
      have hlen := row_len R s c (Nat.le_of_lt hc)
      have hlow := row_low R f hn (s := s) (c := c) (by (first | lia | omega)) (Nat.le_of_lt hc)
      obtain ⟨w1, w2, w3⟩ := wd_in R hc
      have hg := greedy_rng (l := l) (r := r) K (lv l r root k0 s + c)
      rw [w3 K hlow.2] at hg
      obtain ⟨k, hk⟩ := ih s (c + 1) hc (by rw [row_next R hc, List.length_append]; simp; (first | lia | omega))
      refine ⟨k + 1, .hit ?_ ?_ ?_⟩
      · rw [List.length_map]; (first | lia | omega)
      · rw [hg, nat_fdiv, w1]
      · rw [hg]
        rw [row_next R hc, List.map_append] at hk
        exact hk
    intro s c hc hl
    rcases Nat.lt_or_eq_of_le hc with h | h
    · exact hit s c h hl
    · subst h
      have hlen := row_len R s _ (Nat.le_refl _)
      have hlow := row_low R f hn (s := s) (c := cnt l r s i) (by (first | lia | omega)) (Nat.le_refl _)
      have hnext := row_low R f hn (s := s + 1) (c := 0) (by show tot l r i s + cnt l r s i < 9; (first | lia | omega)) (Nat.zero_le _)
      have hc0 := cnt_pos R.lim (s + 1) i R.ilt
      obtain ⟨k, hk⟩ := hit (s + 1) 0 hc0 (by rw [← row_level R]; exact hl)
      have hg := greedy_rng (l := l) (r := r) K (lv l r root k0 s + cnt l r s i)
      have hw := (wd_in R hc0).2.2 K hnext.2
      have hw0 : wd l r root i (s + 1) 0 = root * 16 ^ (s + 1) := by rw [← row_level R]; exact if_neg (Nat.lt_irrefl _)
      have hlt : root * 16 ^ (s + 1) < 16 ^ K := by
        have := (gd_ok R.lim K 0 _ R.lim.r0 hnext.2).2.1
        rwa [hw, hw0] at this
      have hv : valueI ((root : Int) * (((16 ^ s : Nat) : Int) * 16)) (rng l r K) = ((lv l r root k0 (s + 1) + 0 : Nat) : Int) := by
        rw [show (root : Int) * (((16 ^ s : Nat) : Int) * 16) = ((root * 16 ^ (s + 1) : Nat) : Int) by rw [Nat.pow_succ]; simp]
        rw [value_rng hlt]
        congr 1
        have := lev_lt R (p16 (s + 1))
        rw [Nat.add_zero] at this
        exact vl_le hlt this
      refine ⟨k + 1, .miss ?_ ?_ ?_ ?_⟩
      · rw [List.length_map]; (first | lia | omega)
      · rw [hg, nat_fdiv]
        intro e
        exact wd_out R hlow.2 (by exact_mod_cast e)
      · have : (16 : Nat) ^ s ≤ 16 ^ 5 := Nat.pow_le_pow_right (by decide) (Nat.le_trans hlow.1 f.s5)
        (first | lia | omega)
      · rw [hv]
        rw [← row_level R] at hk
        rw [show ((16 ^ s : Nat) : Int) * 16 = ((16 ^ (s + 1) : Nat) : Int) by rw [Nat.pow_succ]; simp]
        exact hk
theorem row_all (R : Rt l r root i k0 n0) (f : Fits l r i K S) (hn : n0 ≤ 40) (hT : (upTo l r root T).length = 9) :
    ∃ k, RowRun (rng l r K) (root : Int) 9 ((upTo l r root T).map Int.ofNat) k [] 1 (n0 : Int) := by
  obtain ⟨k, hk⟩ := row_run R f hn hT 9 0 0 (Nat.zero_le _) (by rw [row_first R]; rfl)
  rw [row_first R] at hk
  have e : lv l r root k0 0 + 0 = n0 := by
    unfold lv
    rw [Nat.pow_zero, Nat.mul_one, Nat.add_zero, Nat.add_zero]
    exact R.val
  rw [e] at hk
  exact ⟨k, hk⟩
end
end Mine
end
section
namespace Mine
open PySem.Calls PySem.Spec PySem.Builtin PySem.Builtin._codecs
theorem loop_ascii {σ : Type} {b : Array UInt8} (f : Nat → (Nat × Array Nat × σ) → Sem (ForInStep (Nat × Array Nat × σ)))
    (hf : ∀ x p out st, p < b.size → out.size = p → f x (p, out, st) = pure (ForInStep.yield (p + 1, out ++ [(b.getD p 0).toNat].toArray, st))) :
    ∀ (k p s0 : Nat) (out : Array Nat) (st : σ), p + k = b.size → out.size = p → forIn (List.range' s0 k) (p, out, st) f = pure (b.size, out ++ ((b.toList.drop p).map (·.toNat)).toArray, st)
  | 0, p, s0, out, st, h, _ => by
    have : p = b.size := by (first | lia | omega)
    subst this
    have hz : (List.map (fun x : UInt8 => x.toNat) (List.drop b.size b.toList)) = [] := by
      rw [List.drop_eq_nil_of_le (by simp)]; rfl
    rw [hz, Array.append_empty]
    rfl
  | k + 1, p, s0, out, st, h, ho => by
    rw [List.range'_succ, List.forIn_cons, hf _ p out st (by (first | lia | omega)) ho, pure_bind]
    dsimp only
    rw [loop_ascii f hf k (p + 1) _ _ st (by (first | lia | omega)) (by simp; (first | lia | omega))]
    have hp : p < b.toList.length := by simp; (first | lia | omega)
    have e : b.toList.drop p = b.getD p 0 :: b.toList.drop (p + 1) := by
      rw [List.drop_eq_getElem_cons hp]
      congr 1
      simp [Array.getD, show p < b.size by (first | lia | omega)]
    rw [e]
    simp
theorem run_ascii {id : String} {e : Option Str} {b : Array UInt8} (hb : ∀ i, i < b.size → (b.getD i 0).toNat < 128) (hsz : b.size ≤ 1000) :
    runDecoder id asciiDecoder e true b 0 [] = pure (b.map (·.toNat), b.size) := by
  unfold runDecoder
  simp only [Std.Legacy.Range.forIn_eq_forIn_range', Std.Legacy.Range.size, Nat.sub_zero, Nat.add_sub_cancel, Nat.div_one]
  refine Eq.trans (congrArg (fun m => m >>= fun s => pure (s.2.1, s.1)) (loop_ascii (b := b) _ ?hf b.size 0 0 #[] _ (by (first | lia | omega)) rfl)) ?_
  case hf =>
    intro x p out st hp ho
    have h1 : ¬ out.size > sizeLine := by rw [PySem.sizeLine_eq]; (first | lia | omega)
    have h2 : ¬ p ≥ b.size := by (first | lia | omega)
    have h3 : asciiDecoder.find true b p = Found.text [(b.getD p 0).toNat] (p + 1) := by
      show (if (b.getD p 0).toNat < 128 then Found.char (b.getD p 0).toNat (p + 1) else _) = _
      rw [if_pos (hb p hp)]
      rfl
    dsimp only
    rw [if_neg h1, if_neg h2, h3]
  · have : ((b.toList.drop 0).map fun x : UInt8 => x.toNat).toArray = b.map fun x => x.toNat := by
      apply Array.ext'
      simp
    rw [this, Array.empty_append]
    rfl
theorem ascii_road {id : String} {b : Array UInt8} : decodeRoad id b (Str.ofString "ascii") none [] = (runDecoder id asciiDecoder none true b 0 [] >>= fun r => mkStr ⟨r.1⟩) := by kernel_rfl
theorem ascii_entry {c : UInt8} {cs : List UInt8} {t t2 : Tok} : «bytes.decode» ⟨[.bytes (c :: cs).toArray t, .str (Str.ofString "ascii") t2], []⟩ = (mkStr (Str.ofString "utf-8") >>= fun _ => mkStr (Str.ofString "ascii") >>= fun e => mkStr (Str.ofString "bytes.decode") >>= fun d =>
    call (.builtin "_codecs.decode.text") [.bytes (c :: cs).toArray t, e, .none, d] >>= fun v => ret v) := by kernel_rfl
theorem ascii_text {b : Array UInt8} {t t1 t2 : Tok} {d : Str} (hb : ∀ i, i < b.size → (b.getD i 0).toNat < 128) (hsz : b.size ≤ 1000) :
    Meets («_codecs.decode.text» ⟨[.bytes b t, .str (Str.ofString "ascii") t1, .none, .str d t2], []⟩) (fun _ R s => R (.ok (.ret (.str ⟨b.map (·.toNat)⟩ s.toks))) { s with toks := s.toks + 1 }) := by
  refine .of_wp fun prog w A R s h => ?_
  show wpAny _ _ (Bytes.bytesLike _ (.bytes b t) >>= fun r => _) _ _ s
  refine wpAny_bind (wpAny_of_eq KBd.like_eq ?_)
  refine wpAny_bind (wpAny_of_eq KBd.held_eq ?_)
  show wpAny _ _ (_codecs.decodeRoad _ b (Str.ofString "ascii") none [] >>= fun v => _) _ _ s
  rw [ascii_road, run_ascii hb hsz]
  refine wpAny_bind (wpAny_bind (wpAny_pure ?_))
  refine wpAny_mkStr (wpAny_pure ⟨_, rfl, h⟩) ?_
  show (b.map fun x : UInt8 => x.toNat).size ≤ sizeLine
  rw [PySem.sizeLine_eq, Array.size_map]
  (first | lia | omega)
theorem ascii_meets {c : UInt8} {cs : List UInt8} {t t2 : Tok} (hb : ∀ i, i < (c :: cs).toArray.size → ((c :: cs).toArray.getD i 0).toNat < 128) (hsz : (c :: cs).toArray.size ≤ 1000) :
    Meets («bytes.decode» ⟨[.bytes (c :: cs).toArray t, .str (Str.ofString "ascii") t2], []⟩) (fun _ R s => ∀ t' k, R (.ok (.ret (.str ⟨(c :: cs).toArray.map (·.toNat)⟩ t'))) { s with toks := k }) := by
  refine .of_wp fun prog w A R s h => ?_
  rw [ascii_entry]
  refine wpAny_bind (wpAny_mkStr ?_ (by decide))
  refine wpAny_bind (wpAny_mkStr ?_ (by decide))
  refine wpAny_bind (wpAny_mkStr ?_ (by decide))
  exact wpAny_bind (call_function_meets KBd.kind_text KBd.plain_text KBd.entry_text (KBd.args_text _ _ _ _) (ascii_text hb hsz) (wpAny_pure ⟨_, rfl, h _ _⟩))
theorem ascii_args (v u : Value) : argsOk "bytes.decode" ⟨[v, u], []⟩ := by unfold argsOk; kernel_rfl
section
variable {prog : Program} {w : World} {A : Around} {E : Value → Shared → Prop} {s : Shared}
theorem decode_ascii {b : Array UInt8} {t t2 : Tok} {Q : Value → Shared → Prop} (h0 : 0 < b.size) (hb : ∀ i, i < b.size → (b.getD i 0).toNat < 128) (hsz : b.size ≤ 1000)
    (h : ∀ t' k, Q (.str ⟨b.map (·.toNat)⟩ t') { s with toks := k }) :
    wpAny (model prog w) A (call (.builtin "bytes.decode") [.bytes b t, .str (Str.ofString "ascii") t2]) Q E s := by
  obtain ⟨l⟩ := b
  cases l with
  | nil => exact absurd h0 (Nat.lt_irrefl _)
  | cons c cs => exact call_meets FB.slot_bytes_decode (typeIs_bytes _ _ _) FB.entry_bytes_decode (ascii_args _ _) (ascii_meets hb hsz) h
end
end Mine
end
section
namespace Mine
open PySem.Calls PySem.Spec
theorem enterC {prog : Program} {w : World} {A : Around} {Q E : Value → Shared → Prop} {s : Shared} {K : Frag} {g : Heap} {p : Program} {loose : List Str} {mean : ExcName → Option Value} {mg mb : Str → Option Value}
    {name qual : Str} {params : Arguments} {body : List Stmt} {scope : Scope} {dV kV doc pm cdv ct oc : Value} {an od : Option Addr} {osl : Array (Option Value)} {f : Addr} {args : List Value} {kw : List (Str × Value)} {binds : List (Str × Value)}
    (X : K.In g) (T : Top p loose mean mg mb g) (hk : ∀ b o, g.get? b = some o → s.heap.get? b = some o) (hsz : g.objs.size ≤ s.heap.objs.size)
    (ho : K.lookup f = some ⟨oc, od, .func (fnOf name qual params body scope dV kV doc pm an cdv ct), osl⟩) (hcd : codeIn K cdv qual = true)
    (hroom : A.depth < recursionLimit)
    (hbind : BindsTo s (fnOf name qual params body scope dV kV doc pm an cdv ct) ⟨args, kw⟩ binds)
    (hkind : ∀ n, ∀ x ∈ binds, scope.names.lookup x.1 = some .local ∨ (scope.names.lookup x.1 = some .cell ∧ ((cellsFrom n scope.names []).lookup x.1).isSome = true))
    (hnd : ((cellsFrom 0 scope.names []).map (·.1)).Nodup)
    (hco : scope.isCoroutine = false) (hgen : scope.isGenerator = false) (hkf : scope.kind = .function)
    (h : ∀ L h₁ tk cells, L = s.heap.objs.size → Fr g L h₁ (bindL (envOfC qual scope L f cdv).kindOf binds fun _ => none) → News g L h₁ cells →
      CellsAre (bindC (envOfC qual scope L f cdv).kindOf binds fun _ => none) (cellsFrom (L + 1) scope.names []) cells → (∀ b o, s.heap.get? b = some o → h₁.get? b = some o) →
      wpAny (model prog w) (A.deeper (envOfC qual scope L f cdv)) (execs body (envOfC qual scope L f cdv))
        (fun fl s' => Q (match fl with | .ret v => v | _ => .none) s') (fun _ _ => False)
        { s with heap := h₁, toks := tk }) :
    wpAny (model prog w) A (call (.ref f) args kw) Q E s := by
  have X' : K.In s.heap := X.keeps hk
  refine wpAny_call (codeAny_call_function hroom (X' _ _ ho) rfl hco hgen rfl (codeRec_of X' hcd) (hbind _ _ _ _ ?_))
  refine wpAny_newFunctionEnv_cells hkf (hkind _) fun env' he s' x => ?_
  subst he
  refine ⟨(T.nolimit.keeps hk).keeps x.toInCall.keep, codeAny_func ?_⟩
  obtain ⟨h₁, tk, rfl, _⟩ := x.done
  have hk₁ := x.toInCall.keep
  obtain ⟨cells, NC, Y⟩ := Cl.news (h₀ := s.heap) (Nat.le_refl _) fun n c hm => ⟨x.cell n c (lookup_of_mem_nodup (cellsFrom_names scope.names 0 (s.heap.objs.size + 1) [] [] rfl ▸ hnd) hm), x.above n c hm⟩
  refine wpAny_mono (h s.heap.objs.size h₁ tk cells rfl ⟨x.toInCall.ns, fun b o e => hk₁ b o (hk b o e), hsz⟩ (fun p hp => ?_) Y hk₁) (fun _ _ x => x) (fun _ _ x => x.elim)
  refine ⟨(NC p hp).1, (NC p hp).2.1, ?_⟩
  cases q : g.get? p.1 with
  | none => rfl
  | some o => have := hk _ _ q; rw [(NC p hp).2.2] at this; cases this
end Mine
end
section
namespace Mine
/-- the frame of _law_noted -/
def nm (v0 v1 v2 v3 v4 v5 v6 : Option Value) : Str → Option Value := fun z =>
  if z = Str.ofString "root" then v0 else if z = Str.ofString "top" then v1 else if z = Str.ofString "rows" then v2 else if z = Str.ofString "wished" then v3 else if z = Str.ofString "heap" then v4 else if z = Str.ofString "noted" then v5 else if z = Str.ofString "number" then v6 else none
theorem nmn {z : Str} {v0 v1 v2 v3 v4 v5 v6 : Option Value} (a0 : z ≠ Str.ofString "root") (a1 : z ≠ Str.ofString "top") (a2 : z ≠ Str.ofString "rows") (a3 : z ≠ Str.ofString "wished") (a4 : z ≠ Str.ofString "heap") (a5 : z ≠ Str.ofString "noted") (a6 : z ≠ Str.ofString "number") : nm v0 v1 v2 v3 v4 v5 v6 z = none := by
  unfold nm
  simp only [a0, a1, a2, a3, a4, a5, a6, if_false]
theorem fr_nm {g h : Heap} {L : Addr} {m : Str → Option Value} {v0 v1 v2 v3 v4 v5 v6 : Option Value} (F : Fr g L h m) (h0 : m (Str.ofString "root") = v0) (h1 : m (Str.ofString "top") = v1) (h2 : m (Str.ofString "rows") = v2) (h3 : m (Str.ofString "wished") = v3) (h4 : m (Str.ofString "heap") = v4) (h5 : m (Str.ofString "noted") = v5) (h6 : m (Str.ofString "number") = v6)
    (hr : ∀ z, z ≠ Str.ofString "root" → z ≠ Str.ofString "top" → z ≠ Str.ofString "rows" → z ≠ Str.ofString "wished" → z ≠ Str.ofString "heap" → z ≠ Str.ofString "noted" → z ≠ Str.ofString "number" → m z = none) : Fr g L h (nm v0 v1 v2 v3 v4 v5 v6) :=
  fr_to F fun z => look_eq [(Str.ofString "root", v0), (Str.ofString "top", v1), (Str.ofString "rows", v2), (Str.ofString "wished", v3), (Str.ofString "heap", v4), (Str.ofString "noted", v5), (Str.ofString "number", v6)] (List.forall_mem_cons.mpr ⟨h0, List.forall_mem_cons.mpr ⟨h1, List.forall_mem_cons.mpr ⟨h2, List.forall_mem_cons.mpr ⟨h3, List.forall_mem_cons.mpr ⟨h4, List.forall_mem_cons.mpr ⟨h5, List.forall_mem_cons.mpr ⟨h6, List.forall_mem_nil _⟩⟩⟩⟩⟩⟩⟩) z fun h => hr z (h _ (.head _)) (h _ (.tail _ (.head _))) (h _ (.tail _ (.tail _ (.head _)))) (h _ (.tail _ (.tail _ (.tail _ (.head _))))) (h _ (.tail _ (.tail _ (.tail _ (.tail _ (.head _)))))) (h _ (.tail _ (.tail _ (.tail _ (.tail _ (.tail _ (.head _))))))) (h _ (.tail _ (.tail _ (.tail _ (.tail _ (.tail _ (.tail _ (.head _))))))))
theorem keep_hid {g h : Heap} {L a : Addr} {m : Str → Option Value} (F : Fr g L h m) (hg : g.get? a = none) : ∀ b o, g.get? b = some o → (h.hide a).get? b = some o := by
  intro b o e
  rw [Heap.hide_ne _ (fun q => by rw [q, hg] at e; cases e)]
  exact F.keep b o e
end Mine
end
section
namespace Mine
def noFn : Stmt := sAt PySem.Challenge.rw_in0246_01.row.prog.main.body 26
def noScope : Scope := sScope noFn
def noWhile : Stmt := sAt (sBody noFn) 1
def noLoop : List Stmt := sBody noWhile
def noIf : Stmt := sAt noLoop 0
theorem if_spec {w : World} {dp un : Nat} {fr : Option (List Env)} {gd : Option (List Code)} {p : Program} {loose : List Str} {mean : ExcName → Option Value} {mg mb : Str → Option Value} {s : Shared} {g : Heap} {L ha na ca : Addr}
    {root top : Int} {tr tt : Tok} {v2 v3 num : Option Value} {vH : List Value} {H : List Int} {cH : Nat} {oN oc : Obj} {Q : Flow → Shared → Prop}
    (X : (hd.heap_39 w.params).In g) (T : Top p loose mean mg mb g) (hdp : dp + 40 < recursionLimit) (hun : un + 120 < cLine)
    (F : Fr g L s.heap (nm (some (.int root tr)) (some (.int top tt)) v2 v3 (some (.ref ha)) (some (.ref na)) num))
    (N : News g L s.heap [(ha, listOf vH.toArray cH), (na, oN), (ca, oc)]) (hl1 : (ha : Nat) < na) (hl2 : (ca : Nat) < ha)
    (hi : IntsAre vH H) (hp : IsHp H) (h0 : 0 < H.length) (hlen : H.length ≤ 1000) (hb0 : 1 ≤ H.getD 0 0) (hb1 : H.getD 0 0 < 16 ^ 15) (ht0 : 0 ≤ top) (ht1 : top ≤ 15) (hr0 : 1 ≤ root) (hr1 : root < 16 ^ 15)
    (hret : ∀ h' tk' t vH' H' cH', (H.getD 0 0 ≠ root ∧ Int.fmod (H.getD 0 0) 16 < top ∧ H'.Perm (H.set 0 (H.getD 0 0 + 1)) ∨ ¬ (H.getD 0 0 ≠ root ∧ Int.fmod (H.getD 0 0) 16 < top) ∧ (H.getD 0 0 :: H').Perm H) →
      IntsAre vH' H' → IsHp H' → Fr g L h' (nm (some (.int root tr)) (some (.int top tt)) v2 v3 (some (.ref ha)) (some (.ref na)) (some (.int (H.getD 0 0) t))) → News g L h' [(ha, listOf vH'.toArray cH'), (na, oN), (ca, oc)] → Q .next { s with heap := h', toks := tk' }) :
    wpAny (model PySem.Challenge.rw_in0246_01.row.prog w) ((⟨none, dp, fr, gd, un⟩ : Around).deeper (envOfC (Str.ofString "_law_noted") noScope L 159 (.ref 158))) (exec noIf (envOfC (Str.ofString "_law_noted") noScope L 159 (.ref 158))) Q (fun _ _ => False) s := by
  have hv := hi.length
  k_lt2 hl1
  k_lt2 hl2
  revert X
  k_with_none
  k_fill
  (k_with "exec For Name Subscript cons nil" => (k_here; (rename Fr _ _ _ _ => lF'); (with_unfolding_all refine' For_invVF lF' ?k1 ?k2 ?_; (case k1 => exact rfl); (case k2 => exact rfl); k_whole)))
  (k_with "execs cons" => (first | (k_here; k_gentoks) | ((with_reducible refine Mine.execs_nx ?_); (try dsimp only))))
  (k_with "WhlPost" => dsimp only [Mine.Nx])
  (k_with "KswPost" => dsimp only [Mine.Nx])
  (k_with "InvPostN" => dsimp only [Mine.Nx])
  (k_with "UnrPost" => dsimp only [Mine.Nx])
  (k_with "storeName" => dsimp only)
  intro X
  conv in (exec noIf _) =>
    arg 1
    whnf
  conv in (occs := *) (envOfC _ noScope _ _ _) =>
    all_goals (arg 2; whnf)
  (try k_fold)
  have hne : ∀ p ∈ [(na, oN), (ca, oc)], p.1 ≠ ha := by
    intro p hp e
    have e' : @Eq Nat p.1 ha := e
    rcases List.mem_cons.mp hp with rfl | hp
    · simp only at e'; (first | lia | omega)
    · rcases List.mem_cons.mp hp with rfl | hp
      · simp only at e'; (first | lia | omega)
      · cases hp
  k_steps
  · rename Fr _ _ _ _ => F'
    rename News _ _ _ _ => N'
    have c1 : H.getD 0 0 ≠ root := by assumption
    have c2 : Int.fmod (H.getD 0 0) 16 < top := by assumption
    with_unfolding_all refine' heapreplace_spec (X.keeps (keep_hid F' (N' _ (.head _)).2.2)) (T.keeps (keep_hid F' (N' _ (.head _)).2.2)) ?d ?u (News.get N' (.head _)) hi ?le h0 hp ?_
    case d => (show dp + 1 + 20 < _; exact Mine.rm (j := 21) hdp rfl)
    case u => (show un + 3 + 60 < _; exact Mine.rm (j := 63) hun rfl)
    case le => (first | lia | omega)
    intro vs9 ns9 n9 h9 t9 tk9 hk9 hg9 hi9 hp9 hh9
    have F9 := fr_after F' (N' _ (.head _)).2.1 (N' _ (.head _)).2.2 hk9
    have N9 := news_put N' hne hk9 hg9
    clear F' N'
    k_steps
    rename Fr _ _ _ _ => F'
    rename News _ _ _ _ => N'
    exact hret _ _ _ _ _ _ (.inl ⟨c1, c2, hp9⟩) hi9 hh9 (fr_nm F' rfl rfl rfl rfl rfl rfl rfl (by (intros; repeat (first | (apply Mine.nmn <;> assumption) | refine Mine.ifn (by assumption) ?_)))) N'
  · rename Fr _ _ _ _ => F'
    rename News _ _ _ _ => N'
    have c2 : ¬ Int.fmod (H.getD 0 0) 16 < top := by assumption
    with_unfolding_all refine' heappop_spec (X.keeps (keep_hid F' (N' _ (.head _)).2.2)) (T.keeps (keep_hid F' (N' _ (.head _)).2.2)) ?d ?u (News.get N' (.head _)) hi ?le h0 hp ?_
    case d => (show dp + 1 + 20 < _; exact Mine.rm (j := 21) hdp rfl)
    case u => (show un + 3 + 60 < _; exact Mine.rm (j := 63) hun rfl)
    case le => (first | lia | omega)
    intro vs9 ns9 n9 h9 t9 tk9 hk9 hg9 hi9 hp9 hh9
    have F9 := fr_after F' (N' _ (.head _)).2.1 (N' _ (.head _)).2.2 hk9
    have N9 := news_put N' hne hk9 hg9
    clear F' N'
    k_steps
    rename Fr _ _ _ _ => F'
    rename News _ _ _ _ => N'
    exact hret _ _ _ _ _ _ (.inr ⟨fun q => c2 q.2, hp9⟩) hi9 hh9 (fr_nm F' rfl rfl rfl rfl rfl rfl rfl (by (intros; repeat (first | (apply Mine.nmn <;> assumption) | refine Mine.ifn (by assumption) ?_)))) N'
  · rename Fr _ _ _ _ => F'
    rename News _ _ _ _ => N'
    have c1 : H.getD 0 0 = root := by assumption
    with_unfolding_all refine' heappop_spec (X.keeps (keep_hid F' (N' _ (.head _)).2.2)) (T.keeps (keep_hid F' (N' _ (.head _)).2.2)) ?d ?u (News.get N' (.head _)) hi ?le h0 hp ?_
    case d => (show dp + 1 + 20 < _; exact Mine.rm (j := 21) hdp rfl)
    case u => (show un + 3 + 60 < _; exact Mine.rm (j := 63) hun rfl)
    case le => (first | lia | omega)
    intro vs9 ns9 n9 h9 t9 tk9 hk9 hg9 hi9 hp9 hh9
    have F9 := fr_after F' (N' _ (.head _)).2.1 (N' _ (.head _)).2.2 hk9
    have N9 := news_put N' hne hk9 hg9
    clear F' N'
    k_steps
    rename Fr _ _ _ _ => F'
    rename News _ _ _ _ => N'
    exact hret _ _ _ _ _ _ (.inr ⟨fun q => q.1 c1, hp9⟩) hi9 hh9 (fr_nm F' rfl rfl rfl rfl rfl rfl rfl (by (intros; repeat (first | (apply Mine.nmn <;> assumption) | refine Mine.ifn (by assumption) ?_)))) N'
end Mine
end
section
namespace Mine
def noWord : Stmt := sAt noLoop 1
/-- the text of a number's word -/
def wordS (n : Int) : Str := ⟨(apB n.toNat).map (·.toNat)⟩
theorem hexF_pos : ∀ (k n : Nat), 0 < n → 0 < (hexF (k + 1) n).length := by
  intro k n h
  show 0 < (if n = 0 then [] else hexF k (n / 16) ++ [n % 16]).length
  rw [if_neg (by (first | lia | omega))]
  simp
theorem hexF_lt : ∀ (k n d : Nat), d ∈ hexF k n → d < 16
  | 0, _, _, h => by cases h
  | k + 1, n, d, h => by
    have h' : d ∈ (if n = 0 then [] else hexF k (n / 16) ++ [n % 16]) := h
    split at h'
    · cases h'
    · rcases List.mem_append.mp h' with h' | h'
      · exact hexF_lt k _ d h'
      · rw [List.mem_singleton.mp h']; (first | lia | omega)
theorem apB_pos {n : Nat} (h : 0 < n) : 0 < (apB n).size := by
  have := hexF_pos 15 n h
  simpa [apB, hexL] using this
theorem apB_ascii {n i : Nat} (hi : i < (apB n).size) : ((apB n).getD i 0).toNat < 128 := by
  have hl : i < (hexL n).length := by simpa [apB] using hi
  have hd := hexF_lt 16 n _ (List.getElem_mem hl)
  have e : (apB n).getD i 0 = UInt8.ofNat (65 + (hexL n)[i]) := by
    simp [apB, Array.getD, hl]
  rw [e]
  show (65 + (hexL n)[i]) % 256 < 128
  have : (hexL n)[i] < 16 := hd
  (first | lia | omega)
theorem word_spec {w : World} {dp un : Nat} {fr : Option (List Env)} {gd : Option (List Code)} {p : Program} {loose : List Str} {mean : ExcName → Option Value} {mg mb : Str → Option Value} {s : Shared} {g : Heap} {L ha na : Addr}
    {m : Int} {tm : Tok} {v0 v1 v2 v3 v4 v5 vc : Option Value} {oH oN oc : Obj} {Q : Flow → Shared → Prop}
    (X : (hd.heap_39 w.params).In g) (T : Top p loose mean mg mb g) (hdp : dp + 40 < recursionLimit) (hun : un + 120 < cLine)
    (F : Fr g L s.heap (nm v0 v1 v2 v3 v4 v5 (some (.int m tm))))
    (N : News g L s.heap [(ha, oH), (na, oN), (L + 1, oc)]) (hl1 : (ha : Nat) < na) (hl2 : (L + 1 : Nat) < ha) (hoc : oc.data = .cell vc)
    (hb0 : 1 ≤ m) (hb1 : m < 16 ^ 15)
    (hret : ∀ h' tk' t oc', oc'.data = .cell (some (.str (wordS m) t)) → Fr g L h' (nm v0 v1 v2 v3 v4 v5 (some (.int m tm))) → News g L h' [(ha, oH), (na, oN), (L + 1, oc')] → Q .next { s with heap := h', toks := tk' }) :
    wpAny (model PySem.Challenge.rw_in0246_01.row.prog w) ((⟨none, dp, fr, gd, un⟩ : Around).deeper (envOfC (Str.ofString "_law_noted") noScope L 159 (.ref 158))) (exec noWord (envOfC (Str.ofString "_law_noted") noScope L 159 (.ref 158))) Q (fun _ _ => False) s := by
  k_lt2 hl1
  k_lt2 hl2
  revert X
  k_with_none
  k_fill
  (k_with "exec For Name Subscript cons nil" => (k_here; (rename Fr _ _ _ _ => lF'); (with_unfolding_all refine' For_invVF lF' ?k1 ?k2 ?_; (case k1 => exact rfl); (case k2 => exact rfl); k_whole)))
  (k_with "execs cons" => (first | (k_here; k_gentoks) | ((with_reducible refine Mine.execs_nx ?_); (try dsimp only))))
  (k_with "WhlPost" => dsimp only [Mine.Nx])
  (k_with "KswPost" => dsimp only [Mine.Nx])
  (k_with "InvPostN" => dsimp only [Mine.Nx])
  (k_with "UnrPost" => dsimp only [Mine.Nx])
  (k_with "storeName" => dsimp only)
  (k_with "call builtin:bytes.decode" => refine Mine.hold ?_)
  intro X
  conv in (exec noWord _) =>
    arg 1
    whnf
  conv in (occs := *) (envOfC _ noScope _ _ _) =>
    all_goals (arg 2; whnf)
  (try k_fold)
  k_steps
  with_unfolding_all refine' int2ap_spec (X.keeps F.keep) (T.keeps F.keep) ?d ?u (by (first | lia | omega)) (by (first | lia | omega)) ?_
  case d => (show dp + 1 + 5 < _; exact Mine.rm (j := 6) hdp rfl)
  case u => (show un + 3 + 20 < _; exact Mine.rm (j := 23) hun rfl)
  intro t9 h9 tk9 hk9
  have F9 := fr_keep F hk9
  have N9 := news_keep N hk9
  clear F N hk9
  k_steps
  refine unhold ?_
  refine decode_ascii (apB_pos (by (first | lia | omega))) (fun i hi => apB_ascii hi) (Nat.le_trans (apB_size _) (by decide)) ?_
  intro t8 k8
  k_steps
  rename Fr _ _ _ _ => F'
  rename News _ _ _ _ => N'
  rename (_ = Data.cell _) => d'
  exact hret _ _ _ _ d' F' N'
end Mine
end
section
namespace Mine
def noChk : Stmt := sAt noLoop 2
theorem chk_spec {w : World} {dp un : Nat} {fr : Option (List Env)} {gd : Option (List Code)} {p : Program} {loose : List Str} {mean : ExcName → Option Value} {mg mb : Str → Option Value} {s : Shared} {g : Heap} {L ha na : Addr}
    {m : Int} {tm tc : Tok} {x : Str} {v0 v1 v2 v3 v4 v5 : Option Value} {oH oN oc : Obj} {Q : Flow → Shared → Prop}
    (X : (hd.heap_39 w.params).In g) (T : Top p loose mean mg mb g) (hdp : dp + 40 < recursionLimit) (hun : un + 120 < cLine)
    (F : Fr g L s.heap (nm v0 v1 v2 v3 v4 v5 (some (.int m tm))))
    (N : News g L s.heap [(ha, oH), (na, oN), (L + 1, oc)]) (hl1 : (ha : Nat) < na) (hl2 : (L + 1 : Nat) < ha) (hoc : oc.data = .cell (some (.str x tc)))
    (hx : x.length ≤ 16) (hx0 : 1 ≤ x.length) (hb0 : (16 : Int) ^ x.length ≤ 16 * m) (hb1 : m < 16 ^ x.length)
    (hret : ∀ tk', Q .next { s with toks := tk' }) :
    wpAny (model PySem.Challenge.rw_in0246_01.row.prog w) ((⟨none, dp, fr, gd, un⟩ : Around).deeper (envOfC (Str.ofString "_law_noted") noScope L 159 (.ref 158))) (exec noChk (envOfC (Str.ofString "_law_noted") noScope L 159 (.ref 158))) Q (fun _ _ => False) s := by
  k_lt2 hl1
  k_lt2 hl2
  revert X
  k_with_none
  k_fill
  (k_with "exec For Name Subscript cons nil" => (k_here; (rename Fr _ _ _ _ => lF'); (with_unfolding_all refine' For_invVF lF' ?k1 ?k2 ?_; (case k1 => exact rfl); (case k2 => exact rfl); k_whole)))
  (k_with "execs cons" => (first | (k_here; k_gentoks) | ((with_reducible refine Mine.execs_nx ?_); (try dsimp only))))
  (k_with "WhlPost" => dsimp only [Mine.Nx])
  (k_with "KswPost" => dsimp only [Mine.Nx])
  (k_with "InvPostN" => dsimp only [Mine.Nx])
  (k_with "UnrPost" => dsimp only [Mine.Nx])
  (k_with "storeName" => dsimp only)
  intro X
  conv in (exec noChk _) =>
    arg 1
    whnf
  conv in (occs := *) (envOfC _ noScope _ _ _) =>
    all_goals (arg 2; whnf)
  (try k_fold)
  k_steps
  · exact hret _
  · have c : ¬ m < 16 ^ x.length := by assumption
    exact absurd hb1 c
  · have c : ¬ Int.fdiv (16 ^ x.length) 16 ≤ m := by assumption
    refine absurd ?_ c
    rw [Int.fdiv_eq_ediv_of_nonneg _ (by decide)]
    (first | lia | omega)
end Mine
end
section
namespace Mine
theorem comp_empty {items ys : Array Value} {vs : List Value} {jsOf : Addr → List (Nat × Nat)} {wd : List Nat} {g1 : Addr → Array Value → Prop} (hvl : vs.length = items.size) (hvP : ∀ (j : Nat) v, vs[j]? = some v → items[j]? = some v)
    (hP : Paired (fun v y => y = v) (vs.filter fun v => match v with | .ref j => takesB (jsOf j) wd | _ => false) ys.toList) (hrows : ∀ (i : Nat) v, items[i]? = some v → ∃ j vs, v = Value.ref j ∧ g1 j vs) :
    ys.toList.isEmpty = true ↔ ∀ (i : Nat) j, items[i]? = some (Value.ref j) → takesB (jsOf j) wd = false := by
  rw [List.isEmpty_iff, ← List.length_eq_zero_iff, ← hP.length, List.length_eq_zero_iff, List.filter_eq_nil_iff]
  constructor
  · intro h i j hi
    have hil : i < items.size := by
      rcases Nat.lt_or_ge i items.size with h | h
      · exact h
      · rw [Array.getElem?_eq_none h] at hi; cases hi
    have hv : vs[i]? = some (Value.ref j) := by
      have hil' : i < vs.length := by omega
      have := hvP i vs[i] (List.getElem?_eq_getElem hil')
      rw [hi] at this
      rw [List.getElem?_eq_getElem hil', ← Option.some.inj this]
    have := h _ (List.mem_of_getElem? hv)
    simpa using this
  · intro h v hv
    obtain ⟨k, hk⟩ := List.mem_iff_getElem?.mp hv
    have := hvP k v hk
    obtain ⟨j, vs', rfl, _⟩ := hrows k v this
    have := h k j this
    simp [this]
def noEnd : Stmt := sAt noLoop 3
theorem end_spec {w : World} {dp un : Nat} {fr : Option (List Env)} {gd : Option (List Code)} {p : Program} {loose : List Str} {mean : ExcName → Option Value} {mg mb : Str → Option Value} {s : Shared} {g : Heap} {L ha na R : Addr}
    {m : Int} {tm tc : Tok} {x : Str} {v0 v1 v3 : Option Value} {items : Array Value} {jsOf : Addr → List (Nat × Nat)} {vH vN : List Value} {H NN : List Int} {cH cN : Nat} {oc : Obj} {Q : Flow → Shared → Prop}
    (X : (hd.heap_39 w.params).In g) (T : Top p loose mean mg mb g) (hdp : dp + 40 < recursionLimit) (hun : un + 120 < cLine)
    (hR : g.IsList R items) (hRsz : items.size ≤ 10) (hrows : ∀ (i : Nat) v, items[i]? = some v → ∃ j vs, v = Value.ref j ∧ g.IsList j vs ∧ JAt g vs (jsOf j) ∧ (jsOf j).length ≤ 10)
    (F : Fr g L s.heap (nm v0 v1 (some (.ref R)) v3 (some (.ref ha)) (some (.ref na)) (some (.int m tm))))
    (N : News g L s.heap [(ha, listOf vH.toArray cH), (na, listOf vN.toArray cN), (L + 1, oc)]) (hl1 : (ha : Nat) < na) (hl2 : (L + 1 : Nat) < ha) (hoc : oc.data = .cell (some (.str x tc)))
    (hasc : x.cps.all (· < 128) = true) (hxs : x.cps.size ≤ 1000)
    (hi : IntsAre vH H) (hp : IsHp H) (hlen : H.length ≤ 1000) (hin : IntsAre vN NN) (hlenN : NN.length ≤ 1000) (hb0 : 1 ≤ m) (hb1 : m < 16 ^ 15)
    (hret1 : (∀ (i : Nat) j, items[i]? = some (Value.ref j) → takesB (jsOf j) x.cps.toList = false) → ∀ h' tk' vH' H' cH' vN' cN', H'.Perm (H ++ [m * 16]) → IntsAre vH' H' → IsHp H' → IntsAre vN' (NN ++ [m]) →
      Fr g L h' (nm v0 v1 (some (.ref R)) v3 (some (.ref ha)) (some (.ref na)) (some (.int m tm))) → News g L h' [(ha, listOf vH'.toArray cH'), (na, listOf vN'.toArray cN'), (L + 1, oc)] → Q .next { s with heap := h', toks := tk' })
    (hret2 : ¬ (∀ (i : Nat) j, items[i]? = some (Value.ref j) → takesB (jsOf j) x.cps.toList = false) → ∀ h' tk',
      Fr g L h' (nm v0 v1 (some (.ref R)) v3 (some (.ref ha)) (some (.ref na)) (some (.int m tm))) → News g L h' [(ha, listOf vH.toArray cH), (na, listOf vN.toArray cN), (L + 1, oc)] → Q .next { s with heap := h', toks := tk' }) :
    wpAny (model PySem.Challenge.rw_in0246_01.row.prog w) ((⟨none, dp, fr, gd, un⟩ : Around).deeper (envOfC (Str.ofString "_law_noted") noScope L 159 (.ref 158))) (exec noEnd (envOfC (Str.ofString "_law_noted") noScope L 159 (.ref 158))) Q (fun _ _ => False) s := by
  k_lt2 hl1
  k_lt2 hl2
  revert X
  k_with_none
  k_fill
  (k_with "exec For Name Subscript cons nil" => (k_here; (rename Fr _ _ _ _ => lF'); (with_unfolding_all refine' For_invVF lF' ?k1 ?k2 ?_; (case k1 => exact rfl); (case k2 => exact rfl); k_whole)))
  (k_with "execs cons" => (first | (k_here; k_gentoks) | ((with_reducible refine Mine.execs_nx ?_); (try dsimp only))))
  (k_with "WhlPost" => dsimp only [Mine.Nx])
  (k_with "KswPost" => dsimp only [Mine.Nx])
  (k_with "InvPostN" => dsimp only [Mine.Nx])
  (k_with "UnrPost" => dsimp only [Mine.Nx])
  (k_with "storeName" => dsimp only)
  (k_with "eval ListComp" => refine Mine.hold ?_)
  (k_with "compareOp Eq ref ref" => refine Mine.hold ?_)
  intro X
  conv in (exec noEnd _) =>
    arg 1
    whnf
  conv in (occs := *) (envOfC _ noScope _ _ _) =>
    all_goals (arg 2; whnf)
  (try k_fold)
  have hne : ∀ p ∈ [(na, listOf (vN.toArray.push (.int m tm)) (cN + 1)), (L + 1, oc)], p.1 ≠ ha := by
    intro p hp e
    have e' : @Eq Nat p.1 ha := e
    rcases List.mem_cons.mp hp with rfl | hp
    · simp only at e'; omega
    · rcases List.mem_cons.mp hp with rfl | hp
      · simp only at e'; omega
      · cases hp
  k_steps
  refine unhold ?_
  have hRs : s.heap.IsList R items := hR.at fun o e => F.keep R o e
  have hRlt : @LT.lt Nat _ R s.heap.objs.size := by obtain ⟨_, e, _⟩ := hRs; exact Heap.lt_size e
  refine wpAny_ListComp_free (cl := [(Str.ofString "word", L + 1)]) (fun v => match v with | .ref j => takesB (jsOf j) x.cps.toList | _ => false) (fun v y => y = v) (by rfl) (by decide) rfl (by decide) (by rfl) ?_ (by intro _; with_unfolding_all rfl)
  refine wpAny_mono (nameX_L (cl := cellsFrom (L + 1) _ []) F (by rfl) (Q := fun v s' => v = .ref R ∧ s' = s) ⟨rfl, rfl⟩) ?_ (fun _ _ e => e)
  rintro v s' ⟨rfl, rfl⟩
  refine wpAny_pyIter_list hRs ?_
  refine ⟨s'.heap.objs.size, [s'.heap.objs.size, R], [s'.heap.objs.size], items.size, _, _, rfl, Walks.list (by rfl) _ R (Nat.ne_of_lt hRlt) items, ?_, ⟨⟨_, Heap.get?_push_size _ rfl, rfl, rfl⟩, hRs.push _⟩, ?_, ?_, ?_⟩
  · rw [PySem.sizeLine_eq]; omega
  · intro b hb
    rw [Heap.size_push]
    rcases List.mem_cons.mp hb with rfl | hb
    · exact Nat.lt_succ_self _
    · rcases List.mem_cons.mp hb with rfl | hb
      · exact Nat.lt_succ_of_lt hRlt
      · cases hb
  · refine ⟨?_, ?_⟩
    · intro C i v s₃ m₃ E' hC hP hn hm hk htk
      obtain ⟨j, vs, rfl, hj, hJ, hjl⟩ := hrows i v hP
      have base : ∀ b o, s'.heap.get? b = some o → s₃.heap.get? b = some o := fun b o e => hk b o (by simp only [List.mem_singleton]; exact Nat.ne_of_lt (Heap.lt_size e)) (Heap.get?_push_of_some _ e)
      have gb : ∀ b o, g.get? b = some o → s₃.heap.get? b = some o := fun b o e => base b o (F.keep b o e)
      refine wpAny_tests_one (isTrue_plain ?_)
      refine wpAny_Call_NameR ?_
      refine' Calls.Name_function_global ?k1 ?k2 (Calls.loadGlobal_global (env := compEnvC _ _ C _) ?k3 ?k4 ?_) ?k5
      case k1 => rfl
      case k2 => rfl
      case k5 => decide
      case k3 => exact T.g.keeps gb
      case k4 => exact mg_of X T.g (by k_is)
      k_dflt (refine' callWith_K X ?k2 ?_; (case k2 => k_is))
      show wpAny _ _ (spliced [(false, eval _ _), (false, eval _ _)]) _ _ _
      refine Calls.spliced_cons (cname (by rfl) (by rfl) hn hm (by decide) ?_)
      refine Calls.spliced_cons (wpAny_Name (wpAny_loadName_cell (by rfl) (by rfl) (by rfl) ⟨oc, base _ _ (N _ (.tail _ (.tail _ (.head _)))).1, hoc⟩ ?_) (by decide))
      refine Calls.spliced_nil ⟨X.keeps gb, ?_⟩
      with_unfolding_all refine' takes_spec (js := jsOf j) (x := x) (X.keeps gb) (T.keeps gb) ?d ?u (vs := vs.toList) (hj.at fun o e => gb j o e) (hJ.keeps gb) hjl hasc hxs ?_
      case d => (show dp + 1 + 10 < _; exact Mine.rm (j := 11) hdp rfl)
      case u => (show un + 3 + 40 < _; exact Mine.rm (j := 43) hun rfl)
      intro h9 tk9 hk9
      refine wpAny_truthy_bool ?_
      exact ⟨rfl, h9, tk9, rfl, hk9⟩
    · intro C i v s₃ m₃ E' hC hP hpv hn hm hk htk
      refine cname (by rfl) (by rfl) hn hm (by decide) ⟨rfl, ⟨s₃.heap, s₃.toks, rfl, fun _ _ e => e⟩⟩
  · intro D h' tk ys vs hD hIsL hPl hvl hvP hPair hk
    have base' : ∀ b o, s'.heap.get? b = some o → h'.get? b = some o := fun b o e => hk b o (by simp only [List.mem_singleton]; exact Nat.ne_of_lt (Heap.lt_size e)) (Heap.get?_push_of_some _ e)
    have hD0 : s'.heap.get? D = none := by
      cases e : s'.heap.get? D with
      | none => rfl
      | some o => rw [Heap.get?_push_of_some _ e] at hD; cases hD
    obtain ⟨n8, hg8⟩ := hPl
    have F8 := fr_keep F base'
    have N8 := news_new F N base' hD0 hg8
    have hemp := comp_empty hvl hvP hPair hrows
    clear F N base' hD0 hg8 hD hIsL hvl hvP hPair hk
    obtain ⟨ys⟩ := ys
    k_steps
    refine unhold ?_
    rename Fr _ _ _ _ => F'
    rename News _ _ _ _ => N'
    refine eq_nil (News.get N' (.tail _ (.head _))) (News.get N' (.head _)) (by show un + 3 < _; omega) ?_
    have N2 := fun z hz => N' z (List.Mem.tail _ (List.Mem.tail _ hz))
    clear N'
    by_cases hAll : ∀ (i : Nat) j, items[i]? = some (Value.ref j) → takesB (jsOf j) x.cps.toList = false
    · rw [hemp.mpr hAll]
      k_steps
      rename Fr _ _ _ _ => F'
      rename News _ _ _ _ => N'
      with_unfolding_all refine' heappush_spec (X.keeps (keep_hid F' (N' _ (.head _)).2.2)) (T.keeps (keep_hid F' (N' _ (.head _)).2.2)) ?d ?u (News.get N' (.head _)) hi ?le hp ?_
      case d => (show dp + 1 + 10 < _; exact Mine.rm (j := 11) hdp rfl)
      case u => (show un + 3 + 40 < _; exact Mine.rm (j := 43) hun rfl)
      case le => omega
      intro vs9 ns9 n9 h9 tk9 hk9 hg9 hi9 hp9 hh9
      have F9 := fr_after F' (N' _ (.head _)).2.1 (N' _ (.head _)).2.2 hk9
      have N9 := news_put N' hne hk9 hg9
      clear F' N'
      k_steps
      rename Fr _ _ _ _ => F'
      rename News _ _ _ _ => N'
      rw [List.push_toArray] at N'
      exact hret1 hAll _ _ _ _ _ _ _ hp9 hi9 hh9 (hin.append (.cons m tm .nil)) F' N'
    · rw [show ys.isEmpty = false by cases h : ys.isEmpty with | false => rfl | true => exact absurd (hemp.mp h) hAll]
      k_steps
      rename Fr _ _ _ _ => F'
      rename News _ _ _ _ => N'
      exact hret2 hAll _ _ F' N'
end Mine
end
section
namespace Mine
def sTest : Stmt → Expr
  | .While t _ _ _ => t
  | _ => .Constant (.int 0) 0 ⟨0, 0, 0, 0⟩
def noTest : Expr := sTest noWhile
theorem noLoop_eq : noLoop = [noIf, noWord, noChk, noEnd] := rfl
theorem test_spec {w : World} {dp un : Nat} {fr : Option (List Env)} {gd : Option (List Code)} {p : Program} {loose : List Str} {mean : ExcName → Option Value} {mg mb : Str → Option Value} {s : Shared} {g : Heap} {L ha na ca : Addr}
    {tw : Tok} {v0 v1 v2 v4 num : Option Value} {vN : List Value} {NN : List Int} {cN : Nat} {oH oc : Obj} {Q : Bool → Shared → Prop}
    (X : (hd.heap_39 w.params).In g) (T : Top p loose mean mg mb g) (hdp : dp + 40 < recursionLimit) (hun : un + 120 < cLine)
    (F : Fr g L s.heap (nm v0 v1 v2 (some (.int 9 tw)) v4 (some (.ref na)) num))
    (N : News g L s.heap [(ha, oH), (na, listOf vN.toArray cN), (ca, oc)])
    (hin : IntsAre vN NN) (hlenN : NN.length ≤ 1000)
    (hret : ∀ tk', Q (decide (NN.length < 9)) { s with toks := tk' }) :
    wpAny (model PySem.Challenge.rw_in0246_01.row.prog w) ((⟨none, dp, fr, gd, un⟩ : Around).deeper (envOfC (Str.ofString "_law_noted") noScope L 159 (.ref 158)))
      (isTrue noTest (envOfC (Str.ofString "_law_noted") noScope L 159 (.ref 158)) (eval noTest (envOfC (Str.ofString "_law_noted") noScope L 159 (.ref 158)))) Q (fun _ _ => False) s := by
  have hv := hin.length
  revert X
  k_with_none
  k_fill
  (k_with "exec For Name Subscript cons nil" => (k_here; (rename Fr _ _ _ _ => lF'); (with_unfolding_all refine' For_invVF lF' ?k1 ?k2 ?_; (case k1 => exact rfl); (case k2 => exact rfl); k_whole)))
  (k_with "execs cons" => (first | (k_here; k_gentoks) | ((with_reducible refine Mine.execs_nx ?_); (try dsimp only))))
  (k_with "WhlPost" => dsimp only [Mine.Nx])
  (k_with "KswPost" => dsimp only [Mine.Nx])
  (k_with "InvPostN" => dsimp only [Mine.Nx])
  (k_with "UnrPost" => dsimp only [Mine.Nx])
  (k_with "storeName" => dsimp only)
  (k_with "exec While Compare cons nil" => refine Mine.hold ?_)
  intro X
  conv in (occs := *) noTest =>
    all_goals whnf
  conv in (occs := *) (envOfC _ noScope _ _ _) =>
    all_goals (arg 2; whnf)
  (try k_fold)
  k_steps
  have e : decide ((NN.length : Int) < 9) = decide (NN.length < 9) := decide_eq_decide.mpr (by (first | lia | omega))
  rw [e]
  exact hret _
structure NLaw (root top T : Int) (clear : Int → Prop) (Inv : List Int → List Int → Prop) : Prop where
  start : Inv [root] []
  rng : ∀ H N, Inv H N → IsHp H → N.length < 9 → 0 < H.length ∧ 1 ≤ H.getD 0 0 ∧ H.getD 0 0 < T
  len : ∀ H N, Inv H N → H.length ≤ N.length + 1 ∧ N.length ≤ 9
  keep : ∀ H N H', Inv H N → IsHp H → N.length < 9 → IsHp H' → ¬ clear (H.getD 0 0) →
    (H.getD 0 0 ≠ root ∧ Int.fmod (H.getD 0 0) 16 < top ∧ H'.Perm (H.set 0 (H.getD 0 0 + 1)) ∨ ¬ (H.getD 0 0 ≠ root ∧ Int.fmod (H.getD 0 0) 16 < top) ∧ (H.getD 0 0 :: H').Perm H) → Inv H' N ∧ H.getD 0 0 < H'.getD 0 0
  note : ∀ H N H' H'', Inv H N → IsHp H → N.length < 9 → IsHp H'' → clear (H.getD 0 0) →
    (H.getD 0 0 ≠ root ∧ Int.fmod (H.getD 0 0) 16 < top ∧ H'.Perm (H.set 0 (H.getD 0 0 + 1)) ∨ ¬ (H.getD 0 0 ≠ root ∧ Int.fmod (H.getD 0 0) 16 < top) ∧ (H.getD 0 0 :: H').Perm H) → H''.Perm (H' ++ [H.getD 0 0 * 16]) → Inv H'' (N ++ [H.getD 0 0]) ∧ H.getD 0 0 < H''.getD 0 0
theorem hexL_len {n k : Nat} (h : n < 16 ^ k) : (hexF k n).length ≤ k := hexF_len k n
theorem hexF_val : ∀ (k n : Nat), n < 16 ^ k → 0 < n → 16 ^ (hexF k n).length ≤ 16 * n ∧ n < 16 ^ (hexF k n).length
  | 0, n, h, h0 => by simp at h; (first | lia | omega)
  | k + 1, n, h, h0 => by
    have e : hexF (k + 1) n = hexF k (n / 16) ++ [n % 16] := by
      show (if n = 0 then [] else hexF k (n / 16) ++ [n % 16]) = _
      rw [if_neg (by (first | lia | omega))]
    rw [e, List.length_append, List.length_singleton, Nat.pow_succ]
    by_cases hz : n / 16 = 0
    · have : hexF k (n / 16) = [] := by
        rw [hz]
        cases k <;> rfl
      rw [this]
      simp
      (first | lia | omega)
    · have := hexF_val k (n / 16) (by rw [Nat.pow_succ] at h; (first | lia | omega)) (by (first | lia | omega))
      (first | lia | omega)
theorem wordS_len (n : Int) : (wordS n).length = (hexL n.toNat).length := by
  show ((apB n.toNat).map fun x : UInt8 => x.toNat).size = _
  simp [apB]
theorem wordS_facts {m : Int} (h0 : 1 ≤ m) (h1 : m < 16 ^ 15) : (wordS m).length ≤ 16 ∧ 1 ≤ (wordS m).length ∧ (16 : Int) ^ (wordS m).length ≤ 16 * m ∧ m < 16 ^ (wordS m).length := by
  rw [wordS_len]
  obtain ⟨n, rfl⟩ := Int.eq_ofNat_of_zero_le (show 0 ≤ m by (first | lia | omega))
  rw [Int.toNat_natCast]
  have hn : n < 16 ^ 16 := by (first | lia | omega)
  have h2 := hexF_val 16 n hn (by (first | lia | omega))
  have h3 := hexF_len 16 n
  have h4 := hexF_pos 15 n (by (first | lia | omega))
  refine ⟨h3, h4, ?_, ?_⟩
  · exact_mod_cast h2.1
  · exact_mod_cast h2.2
theorem wordS_ascii {m : Int} : (wordS m).cps.all (· < 128) = true := by
  show ((apB m.toNat).map fun x : UInt8 => x.toNat).all (· < 128) = true
  rw [Array.all_eq_true]
  intro i hi
  have hi' : i < (apB m.toNat).size := by simpa using hi
  have := apB_ascii hi'
  simp only [Array.getElem_map, decide_eq_true_eq]
  simpa [Array.getD, hi'] using this
end Mine
end
section
namespace Mine
section
variable {w : World} {dp un : Nat} {fr : Option (List Env)} {gd : Option (List Code)} {p : Program} {loose : List Str} {mean : ExcName → Option Value} {mg mb : Str → Option Value} {g : Heap} {L ha na R : Addr} {items : Array Value} {jsOf : Addr → List (Nat × Nat)} {root top TT : Int} {tr tt tw : Tok} {clear : Int → Prop} {Inv : List Int → List Int → Prop}
theorem no_meas {T a b : Int} {k : Nat} (h : (T - a).toNat < k + 1) (ha : a < T) (hb : a < b) : (T - b).toNat < k := by (first | lia | omega)
theorem noted_loop
    (X : (hd.heap_39 w.params).In g) (T : Top p loose mean mg mb g) (hdp : dp + 40 < recursionLimit) (hun : un + 120 < cLine)
    (hR : g.IsList R items) (hRsz : items.size ≤ 10) (hrows : ∀ (i : Nat) v, items[i]? = some v → ∃ j vs, v = Value.ref j ∧ g.IsList j vs ∧ JAt g vs (jsOf j) ∧ (jsOf j).length ≤ 10)
    (hclear : ∀ n, 1 ≤ n → n < TT → (clear n ↔ ∀ (i : Nat) j, items[i]? = some (Value.ref j) → takesB (jsOf j) (wordS n).cps.toList = false))
    (hT : TT ≤ 16 ^ 15) (ht0 : 0 ≤ top) (ht1 : top ≤ 15) (hr0 : 1 ≤ root) (hr1 : root < TT) (NL : NLaw root top TT clear Inv) (hl1 : (ha : Nat) < na) (hl2 : (L + 1 : Nat) < ha) :
    ∀ (k : Nat) (s : Shared) (oc : Obj) (vc num : Option Value) (vH vN : List Value) (H NN : List Int) (cH cN : Nat) (Q : Flow → Shared → Prop),
    Fr g L s.heap (nm (some (.int root tr)) (some (.int top tt)) (some (.ref R)) (some (.int 9 tw)) (some (.ref ha)) (some (.ref na)) num) →
    News g L s.heap [(ha, listOf vH.toArray cH), (na, listOf vN.toArray cN), (L + 1, oc)] → oc.data = .cell vc → IntsAre vH H → IntsAre vN NN → Inv H NN → IsHp H → (TT - H.getD 0 0).toNat < k →
    (∀ h' tk' num' vH' vN' H' NN' cH' cN' oc', Fr g L h' (nm (some (.int root tr)) (some (.int top tt)) (some (.ref R)) (some (.int 9 tw)) (some (.ref ha)) (some (.ref na)) num') →
      News g L h' [(ha, listOf (List.toArray vH') cH'), (na, listOf (List.toArray vN') cN'), (L + 1, oc')] → IntsAre vN' NN' → Inv H' NN' → NN'.length = 9 → Q .next { s with heap := h', toks := tk' }) →
    WhlRest PySem.Challenge.rw_in0246_01.row.prog w ((⟨none, dp, fr, gd, un⟩ : Around).deeper (envOfC (Str.ofString "_law_noted") noScope L 159 (.ref 158))) (fun _ _ => False) (envOfC (Str.ofString "_law_noted") noScope L 159 (.ref 158)) noTest noLoop [] Q k s := by
  intro k
  induction k with
  | zero => intro s oc vc num vH vN H NN cH cN Q _ _ _ _ _ _ _ h; (first | lia | omega)
  | succ k ih =>
    intro s oc vc num vH vN H NN cH cN Q F N hoc hiH hiN hI hp hlt hfin
    have hlen := NL.len H NN hI
    refine whl_turn ?hE ?_
    case hE => first | passes_own | with_unfolding_all passes_own
    refine test_spec X T hdp hun F N hiN (by (first | lia | omega)) fun tk0 => ?_
    by_cases h9 : NN.length < 9
    · rw [decide_eq_true h9]
      show wpAny _ _ (execs noLoop _) _ _ _
      rw [noLoop_eq]
      obtain ⟨r0, r1, r2⟩ := NL.rng H NN hI hp h9
      have hw := wordS_facts r1 (show H.getD 0 0 < 16 ^ 15 by (first | lia | omega))
      refine wpAny_execs_cons ?_
      refine if_spec (s := ⟨_, _, _, _, _⟩) X T hdp hun F N hl1 hl2 hiH hp r0 (by (first | lia | omega)) (by (first | lia | omega)) (by (first | lia | omega)) ht0 ht1 hr0 (by (first | lia | omega)) ?_
      intro h1 tk1 t1 vH1 H1 cH1 hperm hi1 hp1 F1 N1
      have hH1 : H1.length ≤ H.length := by
        rcases hperm with ⟨_, _, q⟩ | ⟨_, q⟩
        · have := q.length_eq; rw [List.length_set] at this; (first | lia | omega)
        · have := q.length_eq; rw [List.length_cons] at this; (first | lia | omega)
      show wpAny _ _ (execs [noWord, noChk, noEnd] _) _ _ _
      refine wpAny_execs_cons ?_
      refine word_spec (s := ⟨_, _, _, _, _⟩) X T hdp hun F1 N1 hl1 hl2 hoc r1 (by (first | lia | omega)) ?_
      intro h2 tk2 t2 oc2 hoc2 F2 N2
      show wpAny _ _ (execs [noChk, noEnd] _) _ _ _
      refine wpAny_execs_cons ?_
      refine chk_spec (s := ⟨_, _, _, _, _⟩) X T hdp hun F2 N2 hl1 hl2 hoc2 hw.1 hw.2.1 hw.2.2.1 hw.2.2.2 ?_
      intro tk3
      show wpAny _ _ (execs [noEnd] _) _ _ _
      refine wpAny_execs_cons ?_
      refine end_spec (s := ⟨_, _, _, _, _⟩) X T hdp hun hR hRsz hrows F2 N2 hl1 hl2 hoc2 wordS_ascii (Nat.le_trans hw.1 (by decide)) hi1 hp1 (by (first | lia | omega)) hiN (by (first | lia | omega)) r1 (by (first | lia | omega)) ?_ ?_
      · intro hall h4 tk4 vH2 H2 cH2 vN2 cN2 hperm2 hi2 hp2 hin2 F4 N4
        have hn := NL.note H NN H1 H2 hI hp h9 hp2 ((hclear _ r1 r2).mpr hall) hperm hperm2
        have hl := hn.2
        show wpAny _ _ (execs [] _) _ _ _
        refine wpAny_execs_nil ?_
        exact ih _ _ _ _ _ _ _ _ _ _ _ F4 N4 hoc2 hi2 hin2 hn.1 hp2 (no_meas (by assumption) (by assumption) hn.2) hfin
      · intro hnall h4 tk4 F4 N4
        have hn := NL.keep H NN H1 hI hp h9 hp1 (fun c => hnall ((hclear _ r1 r2).mp c)) hperm
        have hl := hn.2
        show wpAny _ _ (execs [] _) _ _ _
        refine wpAny_execs_nil ?_
        exact ih _ _ _ _ _ _ _ _ _ _ _ F4 N4 hoc2 hi1 hiN hn.1 hp1 (no_meas (by assumption) (by assumption) hn.2) hfin
    · rw [decide_eq_false h9]
      show wpAny _ _ (execs [] _) _ _ _
      refine wpAny_execs_nil ?_
      exact hfin _ _ _ _ _ _ _ _ _ _ F N hiN hI (by (first | lia | omega))
end
end Mine
end
section
namespace Mine
theorem hp_single {x : Int} : IsHp [x] := fun i h0 hl => by simp at hl; omega
theorem news_pick {g h : Heap} {L : Addr} {t a b c : Addr × Obj} (N : News g L h [t, a, b, c]) : News g L h [b, a, c] := by
  intro z hz
  rcases List.mem_cons.mp hz with rfl | hz
  · exact N _ (.tail _ (.tail _ (.head _)))
  · rcases List.mem_cons.mp hz with rfl | hz
    · exact N _ (.tail _ (.head _))
    · exact N _ (.tail _ (.tail _ (.tail _ hz)))
theorem bindL4_none {K : Str → Option NameKind} {a b c d z : Str} {va vb vc vd : Value} (ha : K a = some .local) (hb : K b = some .local) (hc : K c = some .local) (hd : K d = some .local)
    (na : z ≠ a) (nb : z ≠ b) (nc : z ≠ c) (nd : z ≠ d) : bindL K [(a, va), (b, vb), (c, vc), (d, vd)] (fun _ => none) z = none := by
  simp [bindL, ha, hb, hc, hd, na, nb, nc, nd]
theorem noted_spec {w : World} {dp un : Nat} {fr : Option (List Env)} {gd : Option (List Code)} {p : Program} {loose : List Str} {mean : ExcName → Option Value} {mg mb : Str → Option Value} {s : Shared} {R : Addr} {items : Array Value} {jsOf : Addr → List (Nat × Nat)} {root top T : Int} {tr tt tw : Tok} {clear : Int → Prop} {Inv : List Int → List Int → Prop} {Q E : Value → Shared → Prop} :
   (hd.heap_39 w.params).In s.heap → Top p loose mean mg mb s.heap → dp + 40 < recursionLimit → un + 120 < cLine →
   s.heap.IsList R items → items.size ≤ 10 → (∀ (i : Nat) v, items[i]? = some v → ∃ j vs, v = Value.ref j ∧ s.heap.IsList j vs ∧ JAt s.heap vs (jsOf j) ∧ (jsOf j).length ≤ 10) →
   (∀ n, 1 ≤ n → n < T → (clear n ↔ ∀ (i : Nat) j, items[i]? = some (Value.ref j) → takesB (jsOf j) (wordS n).cps.toList = false)) →
   T ≤ 16 ^ 15 → 0 ≤ top → top ≤ 15 → 1 ≤ root → root < T → NLaw root top T clear Inv →
   (∀ r vs n' N H h' tk', (∀ b o, s.heap.get? b = some o → h'.get? b = some o) → s.heap.get? r = none → h'.get? r = some (listOf (List.toArray vs) n') → IntsAre vs N → Inv H N → N.length = 9 → Q (.ref r) { s with heap := h', toks := tk' }) →
   wpAny (model PySem.Challenge.rw_in0246_01.row.prog w) ⟨none, dp, fr, gd, un⟩ (call (.ref 159) [.int root tr, .int top tt, .ref R, .int 9 tw]) Q E s := by
  k_with_none
  k_fill
  (k_with "exec For Name Subscript cons nil" => (k_here; (rename Fr _ _ _ _ => lF'); (with_unfolding_all refine' For_invVF lF' ?k1 ?k2 ?_; (case k1 => exact rfl); (case k2 => exact rfl); k_whole)))
  (k_with "execs cons" => (first | (k_here; k_gentoks) | ((with_reducible refine Mine.execs_nx ?_); (try dsimp only))))
  (k_with "WhlPost" => dsimp only [Mine.Nx])
  (k_with "KswPost" => dsimp only [Mine.Nx])
  (k_with "InvPostN" => dsimp only [Mine.Nx])
  (k_with "UnrPost" => dsimp only [Mine.Nx])
  (k_with "storeName" => dsimp only)
  (k_with "exec While Compare cons nil" => refine Mine.hold ?_)
  intro X T' hdp hun hR hRsz hrows hclear hT ht0 ht1 hr0 hr1 NL hret
  k_dflt (refine' Mine.enterC (by assumption) (by assumption) ?ck ?cs ?ho ?hcd ?hroom ?hbind ?hkind ?hnd ?c2 ?c3 ?c4 ?_)
  case ck => exact fun _ _ e => e
  case cs => exact Nat.le_refl _
  case ho => k_is
  case hcd => k_is
  case hroom => exact Mine.rm (j := 0) hdp rfl
  case hbind => exact BindsTo.of_eq rfl
  case hkind => exact fun n x hx => .inl (locs rfl x hx)
  case hnd => decide +kernel
  case c2 => exact rfl
  case c3 => exact rfl
  case c4 => exact rfl
  intro L h₁ tk₁ cells hL F N Y hk
  k_cells Y
  clear hL hk
  (try dsimp only)
  (try k_fold)
  k_steps
  refine unhold ?_
  rename Fr _ _ _ _ => F'
  rename News _ _ _ _ => N'
  rename (_ = Data.cell _) => hd'
  have F1 : Fr s.heap L _ (nm (some (.int root tr)) (some (.int top tt)) (some (.ref R)) (some (.int 9 tw)) (some (.ref _)) (some (.ref _)) none) :=
    fr_nm F' rfl rfl rfl rfl rfl rfl rfl (by
      intro z a0 a1 a2 a3 a4 a5 a6
      simp only [a4, a5, if_false]
      exact bindL4_none rfl rfl rfl rfl a0 a1 a2 a3)
  refine whl_start ((T - root).toNat + 1) ?_
  refine noted_loop X T' hdp hun hR hRsz hrows hclear hT ht0 ht1 hr0 hr1 NL (addr_lt (by omega)) (addr_lt (by omega)) _ ⟨_, _, _, _, _⟩ _ _ _ [_] [] [root] [] _ _ _ F1 (news_pick N') hd' (.cons root _ .nil) .nil NL.start hp_single (by show (T - root).toNat < _; omega) ?_
  intro h' tk' num' vH' vN' H' NN' cH' cN' oc' F8 N8 hin8 hI8 h9
  k_steps
  exact hret _ _ _ _ _ _ _ F8.keep (N8 _ (.tail _ (.head _))).2.2 (News.get N8 (.tail _ (.head _))) hin8 hI8 h9
end Mine
end
section
namespace Mine
/-! the abstract law of the noted words, from the heap's invariant -/
theorem hp_min {H : List Int} (hp : IsHp H) : ∀ i, i < H.length → H.getD 0 0 ≤ H.getD i 0 := by
  intro i
  induction i using Nat.strongRecOn with
  | _ i ih =>
    intro hi
    by_cases h0 : i = 0
    · subst h0; exact Int.le_refl _
    · exact Int.le_trans (ih ((i - 1) / 2) (by (first | lia | omega)) (by (first | lia | omega))) (hp i (by (first | lia | omega)) hi)
theorem hp_le {H : List Int} (hp : IsHp H) {x : Int} (hx : x ∈ H) : H.getD 0 0 ≤ x := by
  obtain ⟨i, hi, rfl⟩ := List.mem_iff_getElem.mp hx
  have := hp_min hp i hi
  rwa [List.getD_eq_getElem?_getD, List.getD_eq_getElem?_getD, List.getElem?_eq_getElem hi, ← List.getD_eq_getElem?_getD] at this
theorem top_mem {H : List Int} (h : 0 < H.length) : H.getD 0 0 ∈ H := by
  cases H with
  | nil => simp at h
  | cons a r => simp
section
variable {l : Nat → Nat} {r root TT : Nat}
structure Inv (l : Nat → Nat) (r root : Nat) (H N : List Int) : Prop where
  ex : ∃ t, NI l r root t (H.map Int.toNat) (N.map Int.toNat)
  nn : ∀ h ∈ H, 0 ≤ h
  nN : ∀ n ∈ N, 0 ≤ n
  len : H.length ≤ N.length + 1
  nine : N.length ≤ 9
theorem inv_rng (L : Lim l r) (h0 : 1 ≤ root) (hT : 9 ≤ (upTo l r root TT).length) {H N : List Int} (I : Inv l r root H N) (hp : IsHp H) (h9 : N.length < 9) : 0 < H.length ∧ 1 ≤ H.getD 0 0 ∧ H.getD 0 0 < TT := by
  obtain ⟨⟨t, ni⟩, nn, nN, len, nine⟩ := I
  have hlen : (upTo l r root t).length < (upTo l r root TT).length := by rw [← ni.noted, List.length_map]; (first | lia | omega)
  obtain ⟨y, y1, y2, y3⟩ := upTo_more hlen
  obtain ⟨h, h1, h2⟩ := ni.reach L h0 y (y3.cand L) y1
  obtain ⟨z, hz, rfl⟩ := List.mem_map.mp h1
  have hz0 := nn z hz
  have hle := hp_le hp hz
  have hpos : 0 < H.length := List.length_pos_of_mem hz
  have hm := top_mem hpos
  have hc := (ni.lo _ (List.mem_map_of_mem hm)).2.1.ge
  have hm0 := nn _ hm
  exact ⟨hpos, by (first | lia | omega), by (first | lia | omega)⟩
theorem inv_next (L : Lim l r) (h0 : 1 ≤ root) (hr : Fre l r root) {H N H' : List Int} (I : Inv l r root H N) (hp : IsHp H) (hpos : 0 < H.length)
    (hq : H.getD 0 0 ≠ (root : Int) ∧ Int.fmod (H.getD 0 0) 16 < (l 0 : Int) ∧ H'.Perm (H.set 0 (H.getD 0 0 + 1)) ∨ ¬ (H.getD 0 0 ≠ (root : Int) ∧ Int.fmod (H.getD 0 0) 16 < (l 0 : Int)) ∧ (H.getD 0 0 :: H').Perm H) :
    ∃ m : Nat, H.getD 0 0 = (m : Int) ∧ Cand l r root m ∧ (∀ h ∈ H', 0 ≤ h) ∧ H'.length ≤ H.length ∧
      (inS l r root m = false → NI l r root (m + 1) (H'.map Int.toNat) (N.map Int.toNat)) ∧
      (inS l r root m = true → ∀ H'' : List Int, H''.Perm (H' ++ [H.getD 0 0 * 16]) → NI l r root (m + 1) (H''.map Int.toNat) ((N ++ [H.getD 0 0]).map Int.toNat)) := by
  obtain ⟨⟨t, ni⟩, nn, nN, len, nine⟩ := I
  cases H with
  | nil => simp at hpos
  | cons a R =>
    have ha0 : 0 ≤ a := nn a (.head _)
    obtain ⟨m, rfl⟩ := Int.eq_ofNat_of_zero_le ha0
    have e : (((m : Int) :: R).getD 0 0) = (m : Int) := rfl
    rw [e] at hq ⊢
    rw [show (((m : Int) :: R).set 0 ((m : Int) + 1)) = ((m : Int) + 1) :: R from rfl] at hq
    have hni : NI l r root t (m :: R.map Int.toNat) (N.map Int.toNat) := by simpa using ni
    have hmin : ∀ h ∈ R.map Int.toNat, m ≤ h := by
      intro h hh
      obtain ⟨z, hz, rfl⟩ := List.mem_map.mp hh
      have h1 := hp_le hp (List.mem_cons_of_mem _ hz)
      rw [e] at h1
      (first | lia | omega)
    have nx := hni.next L h0 hr hmin
    have hfm : Int.fmod (m : Int) 16 = ((m % 16 : Nat) : Int) := by rw [Int.fmod_eq_emod_of_nonneg _ (by (first | lia | omega))]; (first | lia | omega)
    rw [hfm] at hq
    have hcond : (m ≠ root ∧ m % 16 < l 0) ↔ ((m : Int) ≠ (root : Int) ∧ ((m % 16 : Nat) : Int) < (l 0 : Int)) := by (first | lia | omega)
    have hH' : H'.Perm ((if m ≠ root ∧ m % 16 < l 0 then [(m : Int) + 1] else []) ++ R) := by
      rcases hq with ⟨a, b, q⟩ | ⟨a, q⟩
      · rw [if_pos (hcond.mpr ⟨a, b⟩)]; exact q
      · rw [if_neg (fun c => a (hcond.mp c))]; exact (List.perm_cons _).mp q
    have hmap : (H'.map Int.toNat).Perm ((if m ≠ root ∧ m % 16 < l 0 then [m + 1] else []) ++ R.map Int.toNat) := by
      by_cases hcc : m ≠ root ∧ m % 16 < l 0
      · rw [if_pos hcc] at hH' ⊢
        have := hH'.map Int.toNat
        simpa using this
      · rw [if_neg hcc] at hH' ⊢
        have := hH'.map Int.toNat
        simpa using this
    refine ⟨m, rfl, (hni.lo m (.head _)).2.1, ?_, ?_, ?_, ?_⟩
    · intro h hh
      rcases List.mem_append.mp (hH'.mem_iff.mp hh) with h1 | h1
      · split at h1
        · rw [List.mem_singleton.mp h1]; (first | lia | omega)
        · cases h1
      · exact nn h (.tail _ h1)
    · have := hH'.length_eq
      rw [this, List.length_append, List.length_cons]
      split <;> simp <;> (first | lia | omega)
    · intro hs
      rw [hs] at nx
      simp only [Bool.false_eq_true, if_false, List.nil_append] at nx
      exact nx.perm hmap.symm
    · intro hs H'' hp''
      rw [hs] at nx
      simp only [if_true] at nx
      have e2 : (N ++ [(m : Int)]).map Int.toNat = N.map Int.toNat ++ [m] := by simp
      rw [e2]
      refine nx.perm ?_
      have h3 := hp''.map Int.toNat
      rw [List.map_append] at h3
      have h4 : [(m : Int) * 16].map Int.toNat = [16 * m] := by simp; (first | lia | omega)
      rw [h4] at h3
      refine List.Perm.trans ?_ h3.symm
      refine List.Perm.trans ?_ (hmap.symm.append_right _)
      rw [List.append_assoc]
      exact List.Perm.append_left _ (List.perm_append_comm)
theorem nlaw (L : Lim l r) (h0 : 1 ≤ root) (hr : Fre l r root) (hT : 9 ≤ (upTo l r root TT).length) {clear : Int → Prop} (hc : ∀ m : Nat, Cand l r root m → (m : Nat) < TT → (clear (m : Int) ↔ Fre l r m)) :
    NLaw (root : Int) (l 0 : Int) (TT : Int) clear (Inv l r root) where
  start := ⟨⟨root, by simpa using NI.start (l := l) (r := r) h0⟩, by simp, by simp, by simp, by simp⟩
  rng := fun H N I hp h9 => inv_rng L h0 hT I hp h9
  len := fun H N I => ⟨I.len, I.nine⟩
  keep := by
    intro H N H' I hp h9 hp' hn hq
    obtain ⟨r0, r1, r2⟩ := inv_rng L h0 hT I hp h9
    obtain ⟨m, em, hcand, hnn, hlen, hf, _⟩ := inv_next L h0 hr I hp r0 hq
    rw [em] at hn r2
    have hs : inS l r root m = false := by
      cases h : inS l r root m with
      | false => rfl
      | true => exact absurd ((hc m hcand (by (first | lia | omega))).mpr ((inS_iff.mp h).fre hr)) hn
    have J : Inv l r root H' N := ⟨⟨_, hf hs⟩, hnn, I.nN, Nat.le_trans hlen I.len, I.nine⟩
    refine ⟨J, ?_⟩
    have hpos := (inv_rng L h0 hT J hp' h9).1
    have := ((hf hs).lo _ (List.mem_map_of_mem (top_mem hpos))).1
    rw [em]
    (first | lia | omega)
  note := by
    intro H N H' H'' I hp h9 hp'' hn hq hperm
    obtain ⟨r0, r1, r2⟩ := inv_rng L h0 hT I hp h9
    obtain ⟨m, em, hcand, hnn, hlen, _, ht⟩ := inv_next L h0 hr I hp r0 hq
    have hn' := hn
    rw [em] at hn' r2
    have hs : inS l r root m = true := inS_iff.mpr (hcand.ext ((hc m hcand (by (first | lia | omega))).mp hn'))
    have hni := ht hs H'' hperm
    have hl : H''.length = H'.length + 1 := by rw [hperm.length_eq]; simp
    have J : Inv l r root H'' (N ++ [H.getD 0 0]) := by
      refine ⟨⟨_, hni⟩, ?_, ?_, ?_, ?_⟩
      · intro h hh
        rcases List.mem_append.mp (hperm.mem_iff.mp hh) with h1 | h1
        · exact hnn h h1
        · rw [List.mem_singleton.mp h1, em]; (first | lia | omega)
      · intro n hn
        rcases List.mem_append.mp hn with h1 | h1
        · exact I.nN n h1
        · rw [List.mem_singleton.mp h1, em]; (first | lia | omega)
      · have := I.len; rw [hl, List.length_append]; simp; (first | lia | omega)
      · rw [List.length_append]; simp; (first | lia | omega)
    refine ⟨J, ?_⟩
    have := (hni.lo _ (List.mem_map_of_mem (top_mem (show 0 < H''.length by (first | lia | omega))))).1
    rw [em]
    (first | lia | omega)
theorem inv_end {H N : List Int} (I : Inv l r root H N) : ∃ t, N = (upTo l r root t).map Int.ofNat := by
  obtain ⟨⟨t, ni⟩, nn, nN, len, nine⟩ := I
  refine ⟨t, ?_⟩
  rw [← ni.noted, List.map_map]
  conv => lhs; rw [← List.map_id N]
  exact List.map_congr_left fun n hn => by
    have := nN n hn
    show n = ((n.toNat : Nat) : Int)
    (first | lia | omega)
end
end Mine
end
section
namespace Mine
/-! the patterns take just the words that are not free -/
section
variable {l : Nat → Nat} {r : Nat}
/-- the state behind a word that is given from behind -/
def stR (l : Nat → Nat) (r : Nat) : List Nat → Option Nat
  | [] => some 0
  | d :: R => (stR l r R).bind fun j => stp l r j d
theorem stR_hex (H : Lim l r) : ∀ (k n : Nat), n < 16 ^ k → stR l r (hexF k n).reverse = sta l r n
  | 0, n, h => by
    have : n = 0 := by simpa using h
    subst this
    rfl
  | k + 1, n, h => by
    by_cases hn : n = 0
    · subst hn; rfl
    · have e : hexF (k + 1) n = hexF k (n / 16) ++ [n % 16] := by
        show (if n = 0 then [] else hexF k (n / 16) ++ [n % 16]) = _
        rw [if_neg hn]
      rw [e, List.reverse_append, List.reverse_singleton, List.singleton_append]
      show (stR l r (hexF k (n / 16)).reverse).bind _ = _
      rw [stR_hex H k (n / 16) (by rw [Nat.pow_succ] at h; (first | lia | omega))]
      conv => rhs; rw [show n = 16 * (n / 16) + n % 16 by (first | lia | omega)]
      exact (sta_snoc H (Nat.mod_lt _ (by decide))).symm
theorem fre_digits (H : Lim l r) : ∀ (k n : Nat), Fre l r n → ∀ d ∈ hexF k n, d ≤ l 0
  | 0, _, _, _, h => by cases h
  | k + 1, n, hf, d, h => by
    have h' : d ∈ (if n = 0 then [] else hexF k (n / 16) ++ [n % 16]) := h
    split at h'
    · cases h'
    · rw [show n = 16 * (n / 16) + n % 16 by (first | lia | omega)] at hf
      have := fre_up H (Nat.mod_lt _ (by decide)) hf
      rcases List.mem_append.mp h' with h' | h'
      · exact fre_digits H k _ this.1 d h'
      · rw [List.mem_singleton.mp h']; exact this.2
theorem cand_digits (H : Lim l r) {root m : Nat} (hr : Fre l r root) (hc : Cand l r root m) (k : Nat) : ∀ d ∈ hexF k m, d ≤ l 0 := by
  rcases hc with rfl | ⟨h1, h2⟩
  · exact fre_digits H k _ hr
  · intro d hd
    cases k with
    | zero => cases hd
    | succ k =>
      have h' : d ∈ (if m = 0 then [] else hexF k (m / 16) ++ [m % 16]) := hd
      split at h'
      · cases h'
      · rcases List.mem_append.mp h' with h' | h'
        · exact fre_digits H k _ (h1.fre hr) d h'
        · rw [List.mem_singleton.mp h']; exact h2
end
/-- two limits: a figure a with a figure from b on behind it -/
def bad2 (a b : Nat) : List Nat → Prop
  | d :: e :: R => (e = a ∧ b ≤ d ∧ d ≤ a) ∨ bad2 a b (e :: R)
  | _ => False
def lim2 (a b : Nat) (i : Nat) : Nat := if i = 0 then a else b
theorem st_bad2 {a b : Nat} (hb : 1 ≤ b) (hba : b ≤ a) : ∀ R : List Nat, (∀ d ∈ R, d ≤ a) →
    (stR (lim2 a b) 2 R = none ∧ bad2 a b R) ∨ (stR (lim2 a b) 2 R = some 0 ∧ ¬ bad2 a b R ∧ ∀ e R', R = e :: R' → e ≠ a) ∨ (stR (lim2 a b) 2 R = some 1 ∧ ¬ bad2 a b R ∧ ∃ R', R = a :: R')
  | [], _ => .inr (.inl ⟨rfl, fun h => h, fun e R' h => by cases h⟩)
  | d :: R, h => by
    have hd := h d (.head _)
    have ih := st_bad2 hb hba R fun x hx => h x (.tail _ hx)
    have eq0 : stR (lim2 a b) 2 (d :: R) = (stR (lim2 a b) 2 R).bind fun j => stp (lim2 a b) 2 j d := rfl
    rw [eq0]
    clear eq0
    rcases ih with ⟨hs, hbad⟩ | ⟨hs, hnb, hh⟩ | ⟨hs, hnb, R', rfl⟩
    · left
      rw [hs]
      refine ⟨rfl, ?_⟩
      cases R with
      | nil => exact hbad.elim
      | cons e R => exact .inr hbad
    · rw [hs]
      have hn2 : ¬ bad2 a b (d :: R) := by
        cases R with
        | nil => exact fun h => h
        | cons e R => exact fun q => q.elim (fun q => hh e R rfl q.1) hnb
      show _ ∨ (stp (lim2 a b) 2 0 d = some 0 ∧ _) ∨ (stp (lim2 a b) 2 0 d = some 1 ∧ _)
      by_cases hda : d = a
      · right; right
        subst hda
        refine ⟨by simp [stp, lim2], hn2, R, rfl⟩
      · right; left
        refine ⟨by unfold stp lim2; rw [if_pos (by simp; (first | lia | omega))], hn2, fun e R' q => ?_⟩
        cases q; exact hda
    · rw [hs]
      show (stp (lim2 a b) 2 1 d = none ∧ _) ∨ (stp (lim2 a b) 2 1 d = some 0 ∧ _) ∨ _
      by_cases hdb : d < b
      · right; left
        refine ⟨by unfold stp lim2; rw [if_pos (by simpa using hdb)], fun q => q.elim (fun q => by (first | lia | omega)) hnb, fun e R'' q => ?_⟩
        cases q; (first | lia | omega)
      · left
        refine ⟨?_, .inl ⟨rfl, by (first | lia | omega), hd⟩⟩
        unfold stp lim2
        rw [if_neg (by simpa using hdb), if_neg (by (first | lia | omega))]
def bad3 (a b c : Nat) : List Nat → Prop
  | d :: e :: R => (e = a ∧ b + 1 ≤ d ∧ d ≤ a) ∨ (∃ R', R = a :: R' ∧ e = b ∧ c ≤ d ∧ d ≤ a) ∨ bad3 a b c (e :: R)
  | _ => False
def lim3 (a b c : Nat) (i : Nat) : Nat := if i = 0 then a else if i = 1 then b else c
theorem st_bad3 {a b c : Nat} (hc : 1 ≤ c) (hcb : c ≤ b) (hba : b ≤ a) : ∀ R : List Nat, (∀ d ∈ R, d ≤ a) →
    (stR (lim3 a b c) 3 R = none ∧ bad3 a b c R) ∨
    (stR (lim3 a b c) 3 R = some 0 ∧ ¬ bad3 a b c R ∧ (∀ e R', R = e :: R' → e ≠ a) ∧ ¬ ∃ R', R = b :: a :: R') ∨
    (stR (lim3 a b c) 3 R = some 1 ∧ ¬ bad3 a b c R ∧ (∃ R', R = a :: R') ∧ ¬ ∃ R', R = b :: a :: R') ∨
    (stR (lim3 a b c) 3 R = some 2 ∧ ¬ bad3 a b c R ∧ ∃ R', R = b :: a :: R')
  | [], _ => .inr (.inl ⟨rfl, fun h => h, (fun e R' h => by cases h), fun ⟨_, h⟩ => by cases h⟩)
  | d :: R, h => by
    have hd := h d (.head _)
    have ih := st_bad3 hc hcb hba R fun x hx => h x (.tail _ hx)
    have eq0 : stR (lim3 a b c) 3 (d :: R) = (stR (lim3 a b c) 3 R).bind fun j => stp (lim3 a b c) 3 j d := rfl
    rw [eq0]
    clear eq0
    rcases ih with ⟨hs, hbad⟩ | ⟨hs, hnb, hh, hk⟩ | ⟨hs, hnb, ⟨R', rfl⟩, hk⟩ | ⟨hs, hnb, R', rfl⟩
    · left
      rw [hs]
      refine ⟨rfl, ?_⟩
      cases R with
      | nil => exact hbad.elim
      | cons e R => exact .inr (.inr hbad)
    · rw [hs]
      have hn2 : ¬ bad3 a b c (d :: R) := by
        cases R with
        | nil => exact fun h => h
        | cons e R => exact fun q => q.elim (fun q => hh e R rfl q.1) fun q => q.elim (fun ⟨R', q1, q2, _⟩ => hk ⟨R', by rw [q1, q2]⟩) hnb
      have hk2 : ¬ ∃ R', d :: R = b :: a :: R' := fun ⟨R', q⟩ => by cases q; exact hh a R' rfl rfl
      by_cases hda : d = a
      · right; right; left
        subst hda
        exact ⟨by simp [stp, lim3], hn2, ⟨R, rfl⟩, hk2⟩
      · right; left
        refine ⟨by show stp (lim3 a b c) 3 0 d = _; unfold stp lim3; rw [if_pos (by simp; (first | lia | omega))], hn2, fun e R' q => ?_, hk2⟩
        cases q; exact hda
    · rw [hs]
      have hn2 : ¬ b + 1 ≤ d → ¬ bad3 a b c (d :: a :: R') := fun hd' q => q.elim (fun q => hd' q.2.1) fun q => q.elim (fun ⟨R'', q1, q2, _⟩ => hk ⟨R'', by rw [q1, q2]⟩) hnb
      by_cases hdb : d < b
      · right; left
        refine ⟨by show stp (lim3 a b c) 3 1 d = _; unfold stp lim3; rw [if_pos (by simpa using hdb)], hn2 (by (first | lia | omega)), fun e R'' q => ?_, fun ⟨R'', q⟩ => ?_⟩
        · cases q; (first | lia | omega)
        · cases q; (first | lia | omega)
      · by_cases hdb' : d = b
        · right; right; right
          subst hdb'
          exact ⟨by simp [stp, lim3], hn2 (by (first | lia | omega)), R', rfl⟩
        · left
          refine ⟨?_, .inl ⟨rfl, by (first | lia | omega), hd⟩⟩
          show stp (lim3 a b c) 3 1 d = _
          unfold stp lim3
          rw [if_neg (by simpa using hdb), if_neg (by simpa using fun q => absurd q hdb')]
    · rw [hs]
      by_cases hdc : d < c
      · right; left
        refine ⟨by show stp (lim3 a b c) 3 2 d = _; unfold stp lim3; rw [if_pos (by simpa using hdc)], fun q => q.elim (fun q => by (first | lia | omega)) fun q => q.elim (fun ⟨_, _, _, q, _⟩ => by (first | lia | omega)) hnb, fun e R'' q => ?_, fun ⟨R'', q⟩ => ?_⟩
        · cases q; (first | lia | omega)
        · cases q; (first | lia | omega)
      · left
        refine ⟨?_, .inr (.inl ⟨R', rfl, rfl, by (first | lia | omega), hd⟩)⟩
        show stp (lim3 a b c) 3 2 d = _
        unfold stp lim3
        rw [if_neg (by simpa using hdc), if_neg (by (first | lia | omega))]
/-! what the judges take, as a split of the word -/
theorem takes2_iff {l0 h0 l1 h1 : Nat} {wd : List Nat} : takesB [(l0, h0), (l1, h1)] wd = true ↔ ∃ A x y B, wd = A ++ x :: y :: B ∧ l0 ≤ x ∧ x ≤ h0 ∧ l1 ≤ y ∧ y ≤ h1 := by
  unfold takesB
  rw [List.any_eq_true]
  have key : ∀ q, fits [(l0, h0), (l1, h1)] wd q = true ↔ (l0 ≤ (wd.drop q).getD 0 0 ∧ (wd.drop q).getD 0 0 ≤ h0) ∧ (l1 ≤ (wd.drop q).getD 1 0 ∧ (wd.drop q).getD 1 0 ≤ h1) := by
    intro q
    simp [fits, outside, List.range_succ]
  constructor
  · rintro ⟨q, hq, hf⟩
    rw [List.mem_range] at hq
    simp only [List.length_cons, List.length_nil] at hq
    have hk := (key q).mp hf
    have h1' : q < wd.length := by (first | lia | omega)
    have h2' : q + 1 < wd.length := by (first | lia | omega)
    refine ⟨wd.take q, wd[q], wd[q + 1], wd.drop (q + 2), ?_, ?_⟩
    · rw [← List.drop_eq_getElem_cons h2', ← List.drop_eq_getElem_cons h1', List.take_append_drop]
    · simp only [List.getD_eq_getElem?_getD, List.getElem?_drop, Nat.add_zero, List.getElem?_eq_getElem h1', List.getElem?_eq_getElem h2', Option.getD_some] at hk
      exact ⟨hk.1.1, hk.1.2, hk.2.1, hk.2.2⟩
  · rintro ⟨A, x, y, B, rfl, a, b, c, d⟩
    refine ⟨A.length, List.mem_range.mpr (by simp <;> (first | lia | omega)), (key _).mpr ?_⟩
    simp [a, b, c, d]
theorem takes3_iff {l0 h0 l1 h1 l2 h2 : Nat} {wd : List Nat} : takesB [(l0, h0), (l1, h1), (l2, h2)] wd = true ↔ ∃ A x y z B, wd = A ++ x :: y :: z :: B ∧ l0 ≤ x ∧ x ≤ h0 ∧ l1 ≤ y ∧ y ≤ h1 ∧ l2 ≤ z ∧ z ≤ h2 := by
  unfold takesB
  rw [List.any_eq_true]
  have key : ∀ q, fits [(l0, h0), (l1, h1), (l2, h2)] wd q = true ↔ ((l0 ≤ (wd.drop q).getD 0 0 ∧ (wd.drop q).getD 0 0 ≤ h0) ∧ (l1 ≤ (wd.drop q).getD 1 0 ∧ (wd.drop q).getD 1 0 ≤ h1)) ∧ (l2 ≤ (wd.drop q).getD 2 0 ∧ (wd.drop q).getD 2 0 ≤ h2) := by
    intro q
    simp [fits, outside, List.range_succ]
    exact and_assoc.symm
  constructor
  · rintro ⟨q, hq, hf⟩
    rw [List.mem_range] at hq
    simp only [List.length_cons, List.length_nil] at hq
    have hk := (key q).mp hf
    have h1' : q < wd.length := by (first | lia | omega)
    have h2' : q + 1 < wd.length := by (first | lia | omega)
    have h3' : q + 2 < wd.length := by (first | lia | omega)
    refine ⟨wd.take q, wd[q], wd[q + 1], wd[q + 2], wd.drop (q + 3), ?_, ?_⟩
    · rw [← List.drop_eq_getElem_cons h3', ← List.drop_eq_getElem_cons h2', ← List.drop_eq_getElem_cons h1', List.take_append_drop]
    · simp only [List.getD_eq_getElem?_getD, List.getElem?_drop, Nat.add_zero, List.getElem?_eq_getElem h1', List.getElem?_eq_getElem h2', List.getElem?_eq_getElem h3', Option.getD_some] at hk
      exact ⟨hk.1.1.1, hk.1.1.2, hk.1.2.1, hk.1.2.2, hk.2.1, hk.2.2⟩
  · rintro ⟨A, x, y, z, B, rfl, a, b, c, d, e, f⟩
    refine ⟨A.length, List.mem_range.mpr (by simp <;> (first | lia | omega)), (key _).mpr ?_⟩
    simp [a, b, c, d, e, f]
theorem bad2_iff {a b : Nat} : ∀ R : List Nat, bad2 a b R ↔ ∃ A d B, R = A ++ d :: a :: B ∧ b ≤ d ∧ d ≤ a
  | [] => ⟨fun h => h.elim, fun ⟨A, d, B, h, _⟩ => by cases A <;> cases h⟩
  | [x] => ⟨fun h => h.elim, fun ⟨A, d, B, h, _⟩ => by
      have := congrArg List.length h
      simp at this
      (first | lia | omega)⟩
  | d :: e :: R => by
    have ih := bad2_iff (a := a) (b := b) (e :: R)
    constructor
    · rintro (⟨rfl, h1, h2⟩ | h)
      · exact ⟨[], d, R, rfl, h1, h2⟩
      · obtain ⟨A, x, B, q, h1, h2⟩ := ih.mp h
        exact ⟨d :: A, x, B, by rw [q]; rfl, h1, h2⟩
    · rintro ⟨A, x, B, q, h1, h2⟩
      cases A with
      | nil => cases q; exact .inl ⟨rfl, h1, h2⟩
      | cons y A =>
        injection q with q1 q2
        exact .inr (ih.mpr ⟨A, x, B, q2, h1, h2⟩)
theorem bad3_iff {a b c : Nat} : ∀ R : List Nat, bad3 a b c R ↔ (∃ A d B, R = A ++ d :: a :: B ∧ b + 1 ≤ d ∧ d ≤ a) ∨ (∃ A d B, R = A ++ d :: b :: a :: B ∧ c ≤ d ∧ d ≤ a)
  | [] => ⟨fun h => h.elim, fun h => by
      rcases h with ⟨A, d, B, h, _⟩ | ⟨A, d, B, h, _⟩ <;> cases A <;> cases h⟩
  | [x] => ⟨fun h => h.elim, fun h => by
      rcases h with ⟨A, d, B, h, _⟩ | ⟨A, d, B, h, _⟩ <;> (have := congrArg List.length h; simp at this; (first | lia | omega))⟩
  | d :: e :: R => by
    have ih := bad3_iff (a := a) (b := b) (c := c) (e :: R)
    constructor
    · rintro (⟨rfl, h1, h2⟩ | ⟨R', rfl, rfl, h1, h2⟩ | h)
      · exact .inl ⟨[], d, R, rfl, h1, h2⟩
      · exact .inr ⟨[], d, R', rfl, h1, h2⟩
      · rcases ih.mp h with ⟨A, x, B, q, h1, h2⟩ | ⟨A, x, B, q, h1, h2⟩
        · exact .inl ⟨d :: A, x, B, by rw [q]; rfl, h1, h2⟩
        · exact .inr ⟨d :: A, x, B, by rw [q]; rfl, h1, h2⟩
    · rintro (⟨A, x, B, q, h1, h2⟩ | ⟨A, x, B, q, h1, h2⟩)
      · cases A with
        | nil => cases q; exact .inl ⟨rfl, h1, h2⟩
        | cons y A =>
          injection q with q1 q2
          exact .inr (.inr (ih.mpr (.inl ⟨A, x, B, q2, h1, h2⟩)))
      · cases A with
        | nil => cases q; exact .inr (.inl ⟨B, rfl, rfl, h1, h2⟩)
        | cons y A =>
          injection q with q1 q2
          exact .inr (.inr (ih.mpr (.inr ⟨A, x, B, q2, h1, h2⟩)))
end Mine
end
section
namespace Mine
theorem codes_eq (m : Nat) : (wordS (m : Int)).cps.toList = (hexL m).map (65 + ·) := by
  show ((apB m).map fun x : UInt8 => x.toNat).toList = _
  rw [Array.toList_map]
  unfold apB
  rw [List.map_map]
  refine List.map_congr_left fun d hd => ?_
  have := hexF_lt 16 m d hd
  show (65 + d) % 256 = 65 + d
  (first | lia | omega)
theorem map_two {D A B : List Nat} {x y : Nat} : D.map (65 + ·) = A ++ x :: y :: B → ∃ A' u v B', D = A' ++ u :: v :: B' ∧ 65 + u = x ∧ 65 + v = y := by
  intro h
  obtain ⟨A', C, rfl, _, h2⟩ := List.map_eq_append_iff.mp h
  obtain ⟨u, C2, rfl, h3, h4⟩ := List.map_eq_cons_iff.mp h2
  obtain ⟨v, B', rfl, h5, _⟩ := List.map_eq_cons_iff.mp h4
  exact ⟨A', u, v, B', rfl, h3, h5⟩
theorem map_three {D A B : List Nat} {x y z : Nat} : D.map (65 + ·) = A ++ x :: y :: z :: B → ∃ A' u v w B', D = A' ++ u :: v :: w :: B' ∧ 65 + u = x ∧ 65 + v = y ∧ 65 + w = z := by
  intro h
  obtain ⟨A', C, rfl, _, h2⟩ := List.map_eq_append_iff.mp h
  obtain ⟨u, C2, rfl, h3, h4⟩ := List.map_eq_cons_iff.mp h2
  obtain ⟨v, C3, rfl, h5, h6⟩ := List.map_eq_cons_iff.mp h4
  obtain ⟨w, B', rfl, h7, _⟩ := List.map_eq_cons_iff.mp h6
  exact ⟨A', u, v, w, B', rfl, h3, h5, h7⟩
theorem takes2_bad {a b : Nat} {D : List Nat} : takesB [(65 + a, 65 + a), (65 + b, 65 + a)] (D.map (65 + ·)) = true ↔ bad2 a b D.reverse := by
  rw [takes2_iff, bad2_iff]
  constructor
  · rintro ⟨A, x, y, B, h, h1, h2, h3, h4⟩
    obtain ⟨A', u, v, B', rfl, e1, e2⟩ := map_two h
    exact ⟨B'.reverse, v, A'.reverse, by rw [show u = a by (first | lia | omega)]; simp, by (first | lia | omega), by (first | lia | omega)⟩
  · rintro ⟨A, d, B, h, h1, h2⟩
    have hD : D = B.reverse ++ a :: d :: A.reverse := by
      have := congrArg List.reverse h
      rw [List.reverse_reverse] at this
      rw [this]; simp
    exact ⟨B.reverse.map (65 + ·), 65 + a, 65 + d, A.reverse.map (65 + ·), by rw [hD]; simp, Nat.le_refl _, Nat.le_refl _, by (first | lia | omega), by (first | lia | omega)⟩
theorem takes3_bad {a b c : Nat} {D : List Nat} : takesB [(65 + a, 65 + a), (65 + b, 65 + b), (65 + c, 65 + a)] (D.map (65 + ·)) = true ↔ ∃ A d B, D.reverse = A ++ d :: b :: a :: B ∧ c ≤ d ∧ d ≤ a := by
  rw [takes3_iff]
  constructor
  · rintro ⟨A, x, y, z, B, h, h1, h2, h3, h4, h5, h6⟩
    obtain ⟨A', u, v, w, B', rfl, e1, e2, e3⟩ := map_three h
    exact ⟨B'.reverse, w, A'.reverse, by rw [show u = a by (first | lia | omega), show v = b by (first | lia | omega)]; simp, by (first | lia | omega), by (first | lia | omega)⟩
  · rintro ⟨A, d, B, h, h1, h2⟩
    have hD : D = B.reverse ++ a :: b :: d :: A.reverse := by
      have := congrArg List.reverse h
      rw [List.reverse_reverse] at this
      rw [this]; simp
    exact ⟨B.reverse.map (65 + ·), 65 + a, 65 + b, 65 + d, A.reverse.map (65 + ·), by rw [hD]; simp, Nat.le_refl _, Nat.le_refl _, Nat.le_refl _, Nat.le_refl _, by (first | lia | omega), by (first | lia | omega)⟩
theorem lim2_ok {a b : Nat} (hb : 1 ≤ b) (hba : b ≤ a) (ha : a ≤ 9) : Lim (lim2 a b) 2 where
  r0 := by decide
  pos := by intro i hi; unfold lim2; split <;> (first | lia | omega)
  le9 := by intro i hi; unfold lim2; split <;> (first | lia | omega)
  anti := by intro i hi; unfold lim2; rw [if_neg (by (first | lia | omega))]; split <;> (first | lia | omega)
theorem lim3_ok {a b c : Nat} (hc : 1 ≤ c) (hcb : c ≤ b) (hba : b ≤ a) (ha : a ≤ 9) : Lim (lim3 a b c) 3 where
  r0 := by decide
  pos := by
    intro i hi
    unfold lim3
    split
    · (first | lia | omega)
    · split <;> (first | lia | omega)
  le9 := by
    intro i hi
    unfold lim3
    split
    · (first | lia | omega)
    · split <;> (first | lia | omega)
  anti := by
    intro i hi
    have : i = 0 ∨ i = 1 := by (first | lia | omega)
    rcases this with rfl | rfl
    · simpa [lim3] using hba
    · simpa [lim3] using hcb
/-- two limits: what the one judge lets stand is free -/
theorem clear2 {a b m : Nat} (hb : 1 ≤ b) (hba : b ≤ a) (ha : a ≤ 9) (hm : m < 16 ^ 16) (hd : ∀ d ∈ hexF 16 m, d ≤ a) :
    takesB [(65 + a, 65 + a), (65 + b, 65 + a)] (wordS (m : Int)).cps.toList = false ↔ Fre (lim2 a b) 2 m := by
  have hs := stR_hex (lim2_ok hb hba ha) 16 m hm
  have hb2 := st_bad2 hb hba (hexL m).reverse fun d h => hd d (List.mem_reverse.mp h)
  rw [show (hexL m).reverse = (hexF 16 m).reverse from rfl] at hb2
  unfold Fre
  rw [hs] at hb2
  rw [codes_eq, ← Bool.not_eq_true, takes2_bad]
  rcases hb2 with ⟨e, h⟩ | ⟨e, h, _⟩ | ⟨e, h, _⟩ <;> rw [e]
  · exact ⟨fun q => absurd h q, fun q => by cases q⟩
  · exact ⟨fun _ => rfl, fun _ => h⟩
  · exact ⟨fun _ => rfl, fun _ => h⟩
/-- three limits -/
def judge1 (a b : Nat) : List (Nat × Nat) := if 65 + a < 66 + b then [(65 + a, 65 + a), (66, 65)] else [(65 + a, 65 + a), (66 + b, 65 + a)]
theorem judge1_bad {a b : Nat} (hba : b ≤ a) {D : List Nat} : takesB (judge1 a b) (D.map (65 + ·)) = true ↔ ∃ A d B, D.reverse = A ++ d :: a :: B ∧ b + 1 ≤ d ∧ d ≤ a := by
  unfold judge1
  split
  · constructor
    · intro h
      obtain ⟨A, x, y, B, _, _, _, h1, h2⟩ := takes2_iff.mp h
      (first | lia | omega)
    · rintro ⟨A, d, B, _, h1, h2⟩
      (first | lia | omega)
  · rw [show (66 + b : Nat) = 65 + (b + 1) by (first | lia | omega), takes2_bad, bad2_iff]
theorem clear3 {a b c m : Nat} (hc : 1 ≤ c) (hcb : c ≤ b) (hba : b ≤ a) (ha : a ≤ 9) (hm : m < 16 ^ 16) (hd : ∀ d ∈ hexF 16 m, d ≤ a) :
    (takesB (judge1 a b) (wordS (m : Int)).cps.toList = false ∧ takesB [(65 + a, 65 + a), (65 + b, 65 + b), (65 + c, 65 + a)] (wordS (m : Int)).cps.toList = false) ↔ Fre (lim3 a b c) 3 m := by
  have hs := stR_hex (lim3_ok hc hcb hba ha) 16 m hm
  have hb3 := st_bad3 hc hcb hba (hexL m).reverse fun d h => hd d (List.mem_reverse.mp h)
  rw [show (hexL m).reverse = (hexF 16 m).reverse from rfl] at hb3
  unfold Fre
  rw [hs, bad3_iff] at hb3
  rw [codes_eq, ← Bool.not_eq_true, ← Bool.not_eq_true, judge1_bad hba, takes3_bad, ← not_or]
  rcases hb3 with ⟨e, h⟩ | ⟨e, h, _⟩ | ⟨e, h, _⟩ | ⟨e, h, _⟩ <;> rw [e]
  · exact ⟨fun q => absurd h q, fun q => by cases q⟩
  · exact ⟨fun _ => rfl, fun _ => h⟩
  · exact ⟨fun _ => rfl, fun _ => h⟩
  · exact ⟨fun _ => rfl, fun _ => h⟩
end Mine
end
section
namespace Mine
theorem fin2 : ∀ a b : Fin 9, b ≤ a → (40 < cnt (lim2 (a.val + 1) (b.val + 1)) 2 8 0) ∧ ∀ i : Fin 2, ∃ S : Fin 6, 9 ≤ tot (lim2 (a.val + 1) (b.val + 1)) 2 i.val (S.val + 1) ∧ 41 * cnt (lim2 (a.val + 1) (b.val + 1)) 2 S.val 0 < 100000 := by decide +kernel
theorem fin3 : ∀ a b c : Fin 9, b ≤ a → c ≤ b → (40 < cnt (lim3 (a.val + 1) (b.val + 1) (c.val + 1)) 3 8 0) ∧ ∀ i : Fin 3, ∃ S : Fin 6, 9 ≤ tot (lim3 (a.val + 1) (b.val + 1) (c.val + 1)) 3 i.val (S.val + 1) ∧ 41 * cnt (lim3 (a.val + 1) (b.val + 1) (c.val + 1)) 3 S.val 0 < 100000 := by decide +kernel
section
variable {l : Nat → Nat} {r : Nat}
theorem vl_zero : ∀ k, vl l r k 0 = 0
  | 0 => rfl
  | k + 1 => by rw [vl_succ, Nat.zero_div, Nat.zero_mod, vl_zero k]; simp
theorem plain_all (L : Lim l r) {K n : Nat} (big : 100000 ≤ cnt l r K 0) (hn0 : 1 ≤ n) (hn1 : n ≤ 40) (h40 : 40 < cnt l r 8 0)
    (hfin : ∀ i, i < r → ∃ S, S ≤ 5 ∧ 9 ≤ tot l r i (S + 1) ∧ 41 * cnt l r S 0 < 100000) {clear : Int → Prop}
    (hc : ∀ root m : Nat, Fre l r root → Cand l r root m → m < 16 ^ 15 → (clear (m : Int) ↔ Fre l r m)) :
    ∃ root TT : Nat, greedyI (n : Int) (rng l r K) = (root : Int) ∧ 1 ≤ root ∧ root < TT ∧ TT ≤ 16 ^ 15 ∧ NLaw (root : Int) (l 0 : Int) (TT : Int) clear (Inv l r root) ∧
      ∀ H N, Inv l r root H N → N.length = 9 → ∃ k, RowRun (rng l r K) (root : Int) 9 N k [] 1 (n : Int) := by
  have hlt8 : n < cnt l r 8 0 := by (first | lia | omega)
  have hltK : n < cnt l r K 0 := by (first | lia | omega)
  obtain ⟨g1, g2, g3⟩ := gd_ok L 8 0 n L.r0 hlt8
  have hg : greedyI (n : Int) (rng l r K) = ((gd l r 8 n : Nat) : Int) := by rw [greedy_rng, gd_le L hltK hlt8]
  generalize gd l r 8 n = root at *
  have hpos : 1 ≤ root := by
    rcases Nat.eq_zero_or_pos root with h | h
    · subst h
      rw [vl_zero] at g3
      (first | lia | omega)
    · exact h
  cases hst : run l r 8 0 root with
  | none => rw [hst] at g1; cases g1
  | some i =>
    have R : Rt l r root i 8 n := ⟨L, hpos, g2, hst, g3⟩
    obtain ⟨S, s5, nine, small⟩ := hfin i R.ilt
    have f : Fits l r i K S := ⟨s5, nine, small, big⟩
    have hlen := row_len R S _ (Nat.le_refl _)
    have hwd : wd l r root i S (cnt l r S i) = root * 16 ^ (S + 1) := if_neg (Nat.lt_irrefl _)
    rw [hwd] at hlen
    have hT9 : 9 ≤ (upTo l r root (root * 16 ^ (S + 1))).length := by rw [hlen]; exact nine
    have h16 : (16 : Nat) ^ (S + 1) ≤ 16 ^ 6 := Nat.pow_le_pow_right (by decide) (by (first | lia | omega))
    have h16' : 16 ≤ (16 : Nat) ^ (S + 1) := Nat.le_trans (by decide) (Nat.pow_le_pow_right (n := 16) (by decide) (show 1 ≤ S + 1 by (first | lia | omega)))
    have hTle : root * 16 ^ (S + 1) ≤ 16 ^ 8 * 16 ^ 6 := Nat.mul_le_mul (Nat.le_of_lt g2) h16
    have hTgt : root * 16 ≤ root * 16 ^ (S + 1) := Nat.mul_le_mul_left _ h16'
    refine ⟨root, root * 16 ^ (S + 1), hg, hpos, by (first | lia | omega), by (first | lia | omega), nlaw L hpos R.fre hT9 (fun m hm hlt => hc root m R.fre hm (by (first | lia | omega))), fun H N I h9 => ?_⟩
    obtain ⟨t, rfl⟩ := inv_end I
    rw [List.length_map] at h9
    exact row_all R f hn1 h9
end
/-! the weights are the counts -/
theorem wts2 {a b : Nat} {ws : List Int} (W : Wts [(a : Int), (b : Int)] ws) : ∃ K, ws = rng (lim2 a b) 2 (K + 1) := by
  induction W with
  | one => exact ⟨0, rfl⟩
  | next W hlt ih =>
    obtain ⟨K, rfl⟩ := ih
    refine ⟨K + 1, ?_⟩
    rw [rng_succ (K := K + 1)]
    congr 2
    unfold wRec wSum
    have hl : (rng (lim2 a b) 2 (K + 1)).length = K + 1 := by simp [rng]
    rw [hl]
    cases K with
    | zero => simp [rng, cnt, lim2, List.range_succ]
    | succ K =>
      rw [rng_succ (K := K + 1), rng_succ (K := K), List.reverse_append, List.reverse_append]
      have e : cnt (lim2 a b) 2 (K + 1 + 1) 0 = a * cnt (lim2 a b) 2 (K + 1) 0 + b * cnt (lim2 a b) 2 K 0 := by
        rw [cnt_succ (by decide), cnt_succ (show 0 + 1 < 2 by decide), cnt_out (show 2 ≤ 0 + 1 + 1 by decide)]
        simp [lim2]
      rw [e]
      simp
      (first | lia | omega)
theorem wts3 {a b c : Nat} {ws : List Int} (W : Wts [(a : Int), (b : Int), (c : Int)] ws) : ∃ K, ws = rng (lim3 a b c) 3 (K + 1) := by
  induction W with
  | one => exact ⟨0, rfl⟩
  | next W hlt ih =>
    obtain ⟨K, rfl⟩ := ih
    refine ⟨K + 1, ?_⟩
    rw [rng_succ (K := K + 1)]
    congr 2
    unfold wRec wSum
    have hl : (rng (lim3 a b c) 3 (K + 1)).length = K + 1 := by simp [rng]
    rw [hl]
    cases K with
    | zero => simp [rng, cnt, lim3, List.range_succ]
    | succ K =>
      cases K with
      | zero => simp [rng, cnt, lim3, List.range_succ]; (first | lia | omega)
      | succ K =>
        rw [rng_succ (K := K + 1 + 1), rng_succ (K := K + 1), rng_succ (K := K), List.reverse_append, List.reverse_append, List.reverse_append]
        have e : cnt (lim3 a b c) 3 (K + 1 + 1 + 1) 0 = a * cnt (lim3 a b c) 3 (K + 1 + 1) 0 + (b * cnt (lim3 a b c) 3 (K + 1) 0 + c * cnt (lim3 a b c) 3 K 0) := by
          rw [cnt_succ (by decide), cnt_succ (show 0 + 1 < 3 by decide), cnt_succ (show 0 + 1 + 1 < 3 by decide), cnt_out (show 3 ≤ 0 + 1 + 1 + 1 by decide)]
          simp [lim3]
        rw [e]
        simp
        (first | lia | omega)
theorem wts_big {l : Nat → Nat} {r K : Nat} (L : Lim l r) (h : ¬ (rng l r (K + 1)).getLastD 0 < 100000) : 100000 ≤ cnt l r (K + 1) 0 := by
  rw [rng_succ, getLastD_snoc] at h
  have := cnt_mono L K
  (first | lia | omega)
end Mine
end
section
namespace Mine
open PySem.Calls PySem.Spec
section
variable {prog : Program} {w : World} {A : Around} {E : Value → Shared → Prop} {env : Env}
/-- the source of a comprehension whose element turns the state: J holds of the state between two items -/
structure GSrc (prog : Program) (w : World) (A : Around) (env : Env) (elt : Expr) (x y : Str) (scope : Scope) (cl : List (Str × Addr)) (P : Addr) (Q : Flow → Shared → Prop) (l : Addr) (items : Array Value) (m : Str → Option Value) (s₁ : Shared) (J : List Addr → Nat → List Value → Shared → Prop) : Prop where
  hl : s₁.heap.IsList l items
  hlP : l ≠ P
  hLP : env.locals ≠ P
  hn : s₁.heap.Ns env.locals m
  hsz : items.size ≤ 100
  hP : ∃ oP, s₁.heap.get? P = some oP
  hJ0 : ∀ W : List Addr, (∀ b ∈ W, s₁.heap.get? b = none) → J W 0 [] s₁
  hstab : ∀ (W : List Addr) i ys (s' s'' : Shared), (∀ b ∈ W, s₁.heap.get? b = none) → (∀ b o, b ∉ W → b ≠ env.locals → s'.heap.get? b = some o → s''.heap.get? b = some o) → s''.gens = s'.gens → J W i ys s' → J W i ys s''
  helt : ∀ (W : List Addr) i ys (s' : Shared) C m' v E', (∀ b ∈ W, s₁.heap.get? b = none) → (∀ b ∈ W, ∃ o, s'.heap.get? b = some o) → J W i ys s' → (∃ o, s'.heap.get? env.locals = some o) → s'.drawn = s₁.drawn → s'.os = s₁.os → items[i]? = some v → s'.heap.Ns C m' → m' x = some v →
      wpAny (model prog w) A (eval elt (compEnvC scope cl C env)) (fun y s'' => J W (i + 1) (ys ++ [y]) s'' ∧ (∀ b o, b ≠ P → s'.heap.get? b = some o → s''.heap.get? b = some o) ∧ s''.drawn = s'.drawn ∧ s''.os = s'.os) E' s'
  hfin : ∀ (W : List Addr) D ys (s' : Shared), (∀ b ∈ W, s₁.heap.get? b = none) → J W items.size ys s' → s₁.heap.get? D = none → s'.heap.get? D = some (listOf ys.toArray ys.length) → s'.heap.Ns env.locals (fun z => if z = y then some (.ref D) else m z) → s'.drawn = s₁.drawn → s'.os = s₁.os → Q .next s'
theorem assign_comp_G {s : Shared} {elt iter : Expr} {x y : Str} {px py : Pos} {scope : Scope} {cl : List (Str × Addr)} {pos spos : Pos} {Q : Flow → Shared → Prop} {P : Addr}
    (hsw : swapsWith (.ListComp elt [⟨.Name x px, iter, [], 0⟩] scope pos) (some (.Name y py)) spos.line env = pure true)
    (hclos : closureFor scope env = pure cl) (hcell : ∀ z ∈ scope.names, z.2 ≠ .cell) (hkind : scope.kind = .function)
    (hnames : ∀ z ∈ scope.names, z.2 = .local → scope.names.lookup z.1 = some .local) (hx : scope.names.lookup x = some .local)
    (hy : env.kindOf y = some .local) (hp : (env.scope.kind == .class || (env.scope.kind == .module && env.locals != env.globals)) = false) (hh : A.handled = none)
    (h : wpAny (model prog w) A (eval iter env) (fun xv s₁ => ∃ l items m J, xv = .ref l ∧ GSrc prog w A env elt x y scope cl P Q l items m s₁ J) E s)
    (hs : ∀ x, foldedSetIterable iter env x = pure x := by intro _; rfl) :
    wpAny (model prog w) A (exec (.Assign [.Name y py] (.ListComp elt [⟨.Name x px, iter, [], 0⟩] scope pos) spos) env) Q E s := by
  rw [exec_Assign_Name_used _ _ _ _ hsw]
  refine wpAny_bind (wpAny_standAt (wpAny_bind ?_))
  show wpAny _ A (do let _ ← comprehension (.ListComp elt [⟨.Name x px, iter, [], 0⟩] scope pos) scope env _ (newList []) false (eval iter env) (some (assign (.Name y py) env))) _ _ s
  refine wpAny_bind (wpAny_mono (wpAny_comprehension_free (use := some (assign (.Name y py) env)) (Q := fun _ s' => Q .next s') rfl hs hclos hkind hnames
    (wpAny_mono h (fun xv s₁' h₁ => ?_) fun _ _ e => e)) (fun _ s' hq => wpAny_pure (wpAny_pure hq)) fun _ _ e => e)
  obtain ⟨l, items, m, J, rfl, ⟨hl, hlP, hLP, hn, hsz, hP, hJ0, hstab, helt, hfin⟩⟩ := h₁
  refine wpAny_pyIter_list hl ?_
  refine wpAny_newObj_type (wpAny_newFunctionEnv hcell (by intro y hy; simp at hy) (fun h₁ hns₁ hsb₁ => ?_) hkind)
  dsimp only at hns₁ hsb₁ ⊢
  generalize hH1 : s₁'.heap.push { cls := .type "list_iterator", data := .fields #[.ref l, .int 0 0] } = H1 at hns₁ hsb₁ ⊢
  generalize hH2 : H1.push { cls := .type "list", dict := none, data := .seq ([] : List Value).toArray } = H2 at hns₁ hsb₁ ⊢
  have z1 : H1.objs.size = s₁'.heap.objs.size + 1 := by rw [← hH1, Heap.size_push]
  have z2 : H2.objs.size = s₁'.heap.objs.size + 1 + 1 := by rw [← hH2, Heap.size_push, z1]
  have o1 : ∀ b o, s₁'.heap.get? b = some o → H1.get? b = some o := fun b o e => by rw [← hH1]; exact Heap.get?_push_of_some _ e
  have o2 : ∀ b o, H1.get? b = some o → H2.get? b = some o := fun b o e => by rw [← hH2]; exact Heap.get?_push_of_some _ e
  have oI : H1.get? s₁'.heap.objs.size = some { cls := .type "list_iterator", data := .fields #[.ref l, .int 0 0] } := by rw [← hH1]; exact Heap.get?_push_size _ rfl
  have oD : H2.get? H1.objs.size = some { cls := .type "list", dict := none, data := .seq ([] : List Value).toArray } := by rw [← hH2]; exact Heap.get?_push_size _ rfl
  generalize hIt : s₁'.heap.objs.size = It at *
  generalize hD : H1.objs.size = D at *
  generalize hC : H2.objs.size = C at *
  have lt0 : ∀ b o, s₁'.heap.get? b = some o → @LT.lt Nat _ b It := fun b o e => hIt ▸ Heap.lt_size e
  have nn : ∀ b o, s₁'.heap.get? b = some o → b ≠ It ∧ b ≠ D ∧ b ≠ C := fun b o e => by
    have h0 := lt0 b o e
    exact ⟨neN (by (first | lia | omega)), neN (by (first | lia | omega)), neN (by (first | lia | omega))⟩
  have nDC : D ≠ C := neN (by (first | lia | omega))
  have nIC : It ≠ C := neN (by (first | lia | omega))
  have nID : It ≠ D := neN (by (first | lia | omega))
  have old : ∀ b o, s₁'.heap.get? b = some o → h₁.get? b = some o := fun b o e => hsb₁.extBut b o (nn b o e).2.2 (Heap.get?_push_of_some _ (o2 b o (o1 b o e)))
  have none_ge : ∀ b : Addr, It ≤ b → s₁'.heap.get? b = none := fun b hb => by
    cases e : s₁'.heap.get? b with
    | none => rfl
    | some o => exact absurd (lt0 b o e) (Nat.not_lt.mpr hb)
  have fresh : ∀ b ∈ [It, D, C], s₁'.heap.get? b = none := by
    intro b hb
    rcases List.mem_cons.mp hb with rfl | hb
    · exact none_ge _ (Nat.le_refl _)
    · rcases List.mem_cons.mp hb with rfl | hb
      · exact none_ge _ (by (first | lia | omega))
      · rcases List.mem_cons.mp hb with rfl | hb
        · exact none_ge _ (by (first | lia | omega))
        · cases hb
  have nW : ∀ b o, s₁'.heap.get? b = some o → b ∉ [It, D, C] := fun b o e hb => by rw [fresh b hb] at e; cases e
  obtain ⟨oP, hoP⟩ := hP
  have hnL : ∃ o, s₁'.heap.get? env.locals = some o := by obtain ⟨o, _, _, e, _⟩ := hn; exact ⟨o, e⟩
  obtain ⟨oL, hoL⟩ := hnL
  obtain ⟨ol, hol⟩ : ∃ o, s₁'.heap.get? l = some o := by obtain ⟨o, e, _⟩ := hl; exact ⟨o, e⟩
  have hlI : l ≠ It := (nn _ _ hol).1
  have W := Walks.list (prog := prog) (w := w) hh It l hlI items
  have hit₁ : h₁.IsListIter It l 0 := ⟨_, hsb₁.extBut _ _ nIC (Heap.get?_push_of_some _ (o2 _ _ oI)), rfl, rfl⟩
  have hl₁ : h₁.IsList l items := hl.at fun o e => old _ o e
  have hacc : h₁.get? D = some (listOf ([] : List Value).toArray 0) := hsb₁.extBut _ _ nDC (Heap.get?_push_of_some _ oD)
  have hnL₁ : h₁.Ns env.locals m := hn.at' fun o e => old _ o e
  have loop : ∀ s₃ : Shared, s₃.heap = h₁ → s₃.gens = s₁'.gens → s₃.drawn = s₁'.drawn → s₃.os = s₁'.os →
      codeAny (model prog w) A (.compLoop (.ListComp elt [⟨.Name x px, iter, [], 0⟩] scope pos) 0 (.ref It) (.ref D) (compEnvC scope cl C env))
        (compPost (model prog w) A E (some (assign (.Name y py) env)) (fun _ s' => Q .next s') (.ref D) C) s₃ := by
    intro s₃ e1 e2 e3 e4
    refine compLoop_T
      (fun k s' => ∃ i ys m', i ≤ items.size ∧ k = items.size + 1 - i ∧ s'.heap.IsListIter It l i ∧ s'.heap.IsList l items ∧ s'.heap.Ns C m' ∧ s'.heap.get? D = some (listOf (List.toArray ys) ys.length) ∧ ys.length = i ∧ s'.heap.Ns env.locals m ∧
        J [It, D, C] i ys s' ∧ s'.drawn = s₁'.drawn ∧ s'.os = s₁'.os) ?_ (items.size + 1)
      ⟨0, [], _, Nat.zero_le _, rfl, by rw [e1]; exact hit₁, by rw [e1]; exact hl₁, by rw [e1]; exact hns₁, by rw [e1]; exact hacc, rfl, by rw [e1]; exact hnL₁,
        hstab _ 0 [] s₁' s₃ fresh (fun b o _ _ e => by rw [e1]; exact old b o e) e2 (hJ0 _ fresh), e3, e4⟩
    rintro k s' ⟨i, ys, m', hi, rfl, hit', hl', hnC', hD', hyl, hnL', hJ', d', o'⟩
    by_cases hlt : i < items.size
    · refine W.item i s' _ _ hlt ⟨hit', hl'⟩ fun v h' tk hv hst' hk => ?_
      refine wpAny_of_eq (a := ()) rfl ?_
      have kI : ∀ b o, b ≠ It → s'.heap.get? b = some o → h'.get? b = some o := fun b o hb e => hk b o (by simpa using hb) e
      refine wpAny_assign_Name (wpAny_storeName_local (lookup_relabel_local hx) (hnC'.at' fun o e => kI _ o (Ne.symm nIC) e) (fun h₂ hn₂ hs₂ => ?_) (by simp [compEnvC, relabel, hkind]))
      refine wpAny_pure ?_
      rw [if_pos rfl]
      have kC : ∀ b o, b ≠ It → b ≠ C → s'.heap.get? b = some o → h₂.get? b = some o := fun b o h1 h2 e => hs₂.extBut b o h2 (kI b o h1 e)
      have hJ2 : J [It, D, C] i ys { s' with heap := h₂, toks := tk + 1 } := hstab _ i ys s' _ fresh (fun b o hb _ e => kC b o (fun q => hb (by simp [q])) (fun q => hb (by simp [q])) e) rfl hJ'
      have hit2 : h₂.IsListIter It l (i + 1) := hst'.1.extBut hs₂.extBut nIC
      have hl2 : h₂.IsList l items := hst'.2.extBut hs₂.extBut (nn _ _ hol).2.2
      have hD2 : h₂.get? D = some (listOf ys.toArray ys.length) := kC _ _ (Ne.symm nID) nDC hD'
      have hnL2 : h₂.Ns env.locals m := hnL'.at' fun o e => kC _ o (nn _ _ hoL).1 (nn _ _ hoL).2.2 e
      refine wpAny_mono (helt [It, D, C] i ys { s' with heap := h₂, toks := tk + 1 } C _ v _ fresh ?_ hJ2 (by obtain ⟨o, _, _, e, _⟩ := hnL2; exact ⟨o, e⟩) d' o' hv hn₂ (by simp)) ?_ (fun _ _ e => e)
      · intro b hb
        rcases List.mem_cons.mp hb with rfl | hb
        · obtain ⟨o, e, _⟩ := hit2; exact ⟨o, e⟩
        · rcases List.mem_cons.mp hb with rfl | hb
          · exact ⟨_, hD2⟩
          · rcases List.mem_cons.mp hb with rfl | hb
            · obtain ⟨o, _, _, e, _⟩ := hn₂; exact ⟨o, e⟩
            · cases hb
      · rintro z s₅ ⟨hJ5, hk5, d5, o5⟩
        have nP := nn _ _ hoP
        refine append_at (hsz := by show ys.toArray.size ≤ sizeLine; rw [List.size_toArray, PySem.sizeLine_eq]; (first | lia | omega)) (hk5 _ _ (Ne.symm nP.2.1) hD2) fun h₆ hs₆ hD₆ => ?_
        refine ⟨items.size + 1 - (i + 1), by (first | lia | omega), i + 1, ys ++ [z], (fun z => if z = x then some v else m' z), hlt, rfl, ?_, ?_, ?_, ?_, by simp [hyl], ?_, ?_, d5.trans d', o5.trans o'⟩
        · exact (hit2.at fun o e => hk5 _ o (Ne.symm nP.1) e).extBut hs₆.extBut nID
        · exact (hl2.at fun o e => hk5 _ o hlP e).extBut hs₆.extBut (nn _ _ hol).2.1
        · exact (hn₂.at' fun o e => hk5 _ o (Ne.symm nP.2.2) e).sameBut hs₆ (Ne.symm nDC)
        · rw [hD₆]
          show some (listOf (ys.toArray.push z) (ys.length + 1)) = _
          rw [List.push_toArray, List.length_append, List.length_singleton]
        · exact (hnL2.at' fun o e => hk5 _ o hLP e).sameBut hs₆ (nn _ _ hoL).2.1
        · exact hstab _ _ _ s₅ _ fresh (fun b o hb _ e => hs₆.extBut b o (fun q => hb (by simp [q])) e) rfl hJ5
    · obtain rfl : i = items.size := Nat.le_antisymm hi (Nat.not_lt.mp hlt)
      refine W.done s' _ _ ⟨hit', hl'⟩ fun h₂ tk hk₂ => ?_
      have kI : ∀ b o, b ≠ It → s'.heap.get? b = some o → h₂.get? b = some o := fun b o hb e => hk₂ b o (by simpa using hb) e
      show wpAny _ A (assign (.Name y py) env (.ref D)) _ _ _
      refine wpAny_assign_Name (wpAny_storeName_local hy (hnL'.at' fun o e => kI _ o (nn _ _ hoL).1 e) (fun h₃ hn₃ hs₃ => ?_) hp)
      refine ⟨m', (hnC'.at' fun o e => kI _ o (Ne.symm nIC) e).sameBut hs₃ (Ne.symm (nn _ _ hoL).2.2), fun h₄ hs₄ => ?_⟩
      refine hfin [It, D, C] D ys _ fresh (hstab _ _ _ s' _ fresh (fun b o hb hbL e => hs₄.extBut b o (fun q => hb (by simp [q])) (hs₃.extBut b o hbL (kI b o (fun q => hb (by simp [q])) e))) rfl hJ') (fresh D (by simp)) ?_ (hn₃.sameBut hs₄ (nn _ _ hoL).2.2) d' o'
      exact hs₄.extBut _ _ nDC (hs₃.extBut _ _ (Ne.symm (nn _ _ hoL).2.1) (kI _ _ (Ne.symm nID) hD'))
  exact codeAny_compStart_list (loop _ rfl rfl rfl rfl) (W.self 0 _ _ _ ⟨hit₁, hl₁⟩ (loop _ rfl rfl rfl rfl))
end
end Mine
end
section
namespace Mine
/-- the frame of law -/
def lm (v0 v1 v2 v3 v4 v5 v6 v7 v8 v9 : Option Value) : Str → Option Value := fun z =>
  if z = Str.ofString "script" then v0 else if z = Str.ofString "drawn" then v1 else if z = Str.ofString "cells" then v2 else if z = Str.ofString "top" then v3 else if z = Str.ofString "second" then v4 else if z = Str.ofString "third" then v5 else if z = Str.ofString "limits" then v6 else if z = Str.ofString "weights" then v7 else if z = Str.ofString "rows" then v8 else if z = Str.ofString "number" then v9 else none
theorem lmn {z : Str} {v0 v1 v2 v3 v4 v5 v6 v7 v8 v9 : Option Value} (a0 : z ≠ Str.ofString "script") (a1 : z ≠ Str.ofString "drawn") (a2 : z ≠ Str.ofString "cells") (a3 : z ≠ Str.ofString "top") (a4 : z ≠ Str.ofString "second") (a5 : z ≠ Str.ofString "third") (a6 : z ≠ Str.ofString "limits") (a7 : z ≠ Str.ofString "weights") (a8 : z ≠ Str.ofString "rows") (a9 : z ≠ Str.ofString "number") : lm v0 v1 v2 v3 v4 v5 v6 v7 v8 v9 z = none := by
  unfold lm
  simp only [a0, a1, a2, a3, a4, a5, a6, a7, a8, a9, if_false]
theorem fr_lm {g h : Heap} {L : Addr} {m : Str → Option Value} {v0 v1 v2 v3 v4 v5 v6 v7 v8 v9 : Option Value} (F : Fr g L h m) (h0 : m (Str.ofString "script") = v0) (h1 : m (Str.ofString "drawn") = v1) (h2 : m (Str.ofString "cells") = v2) (h3 : m (Str.ofString "top") = v3) (h4 : m (Str.ofString "second") = v4) (h5 : m (Str.ofString "third") = v5) (h6 : m (Str.ofString "limits") = v6) (h7 : m (Str.ofString "weights") = v7) (h8 : m (Str.ofString "rows") = v8) (h9 : m (Str.ofString "number") = v9)
    (hr : ∀ z, z ≠ Str.ofString "script" → z ≠ Str.ofString "drawn" → z ≠ Str.ofString "cells" → z ≠ Str.ofString "top" → z ≠ Str.ofString "second" → z ≠ Str.ofString "third" → z ≠ Str.ofString "limits" → z ≠ Str.ofString "weights" → z ≠ Str.ofString "rows" → z ≠ Str.ofString "number" → m z = none) : Fr g L h (lm v0 v1 v2 v3 v4 v5 v6 v7 v8 v9) :=
  fr_to F fun z => look_eq [(Str.ofString "script", v0), (Str.ofString "drawn", v1), (Str.ofString "cells", v2), (Str.ofString "top", v3), (Str.ofString "second", v4), (Str.ofString "third", v5), (Str.ofString "limits", v6), (Str.ofString "weights", v7), (Str.ofString "rows", v8), (Str.ofString "number", v9)] (List.forall_mem_cons.mpr ⟨h0, List.forall_mem_cons.mpr ⟨h1, List.forall_mem_cons.mpr ⟨h2, List.forall_mem_cons.mpr ⟨h3, List.forall_mem_cons.mpr ⟨h4, List.forall_mem_cons.mpr ⟨h5, List.forall_mem_cons.mpr ⟨h6, List.forall_mem_cons.mpr ⟨h7, List.forall_mem_cons.mpr ⟨h8, List.forall_mem_cons.mpr ⟨h9, List.forall_mem_nil _⟩⟩⟩⟩⟩⟩⟩⟩⟩⟩) z fun h => hr z (h _ (.head _)) (h _ (.tail _ (.head _))) (h _ (.tail _ (.tail _ (.head _)))) (h _ (.tail _ (.tail _ (.tail _ (.head _))))) (h _ (.tail _ (.tail _ (.tail _ (.tail _ (.head _)))))) (h _ (.tail _ (.tail _ (.tail _ (.tail _ (.tail _ (.head _))))))) (h _ (.tail _ (.tail _ (.tail _ (.tail _ (.tail _ (.tail _ (.head _)))))))) (h _ (.tail _ (.tail _ (.tail _ (.tail _ (.tail _ (.tail _ (.tail _ (.head _))))))))) (h _ (.tail _ (.tail _ (.tail _ (.tail _ (.tail _ (.tail _ (.tail _ (.tail _ (.head _)))))))))) (h _ (.tail _ (.tail _ (.tail _ (.tail _ (.tail _ (.tail _ (.tail _ (.tail _ (.tail _ (.head _)))))))))))
def laFn : Stmt := sAt PySem.Challenge.rw_in0246_01.row.prog.main.body 27
def laScope : Scope := sScope laFn
def laBody : List Stmt := sBody laFn
def laRows : Stmt := sAt laBody 7
/-- from the limits on -/
def laTail : List Stmt := laBody.drop 5
end Mine
end
section
namespace Mine
open PySem.Calls PySem.Spec
def eElt : Stmt → Expr
  | .Assign _ (.ListComp e _ _ _) _ => e
  | _ => .Constant (.int 0) 0 ⟨0, 0, 0, 0⟩
def eScope : Stmt → Scope
  | .Assign _ (.ListComp _ _ s _) _ => s
  | _ => default
def laElt : Expr := eElt laRows
def laCs : Scope := eScope laRows
/-- translate and _law_judges, one behind the other -/
theorem elt_G {w : World} {dp un : Nat} {fr : Option (List Env)} {gd : Option (List Code)} {p : Program} {loose : List Str} {mean : ExcName → Option Value} {mg mb : Str → Option Value} {s : Shared} {g : Heap} {L C fa : Addr} {cd : Value} {m' : Str → Option Value}
    {pat text : Str} {tp : Tok} {ps : Array Value} {js : List (Nat × Nat)} {Q E : Value → Shared → Prop}
    (X : (hd.heap_39 w.params).In g) (T : Top p loose mean mg mb g) (hdp : dp + 60 < recursionLimit) (hun : un + 200 < cLine) (hC : CodeHd g 68 64) (h64 : g.get? 64 = none)
    (hg : ∀ b o, g.get? b = some o → s.heap.get? b = some o) (ht : s.heap.get? 64 = some (tabObj ps)) (hps : Tb ps) (hbare : AllBare s.gens) (hn : s.heap.Ns C m') (hm : m' (Str.ofString "pattern") = some (.str pat tp))
    (htr : ∀ (s : Shared) (E Q : Value → Shared → Prop), (hd.heap_39 w.params).In (s.heap.hide 64) → Top p loose mean mg mb (s.heap.hide 64) → CodeHd (s.heap.hide 64) 68 64 → s.heap.get? 64 = some (tabObj ps) → Tb ps → AllBare s.gens →
      (∀ t ps' h' g' tk', (∀ b o, (s.heap.hide 64).get? b = some o → h'.get? b = some o) → h'.get? 64 = some (tabObj ps') → Tb ps' → AllBare g' → Q (.str text t) { s with heap := h', gens := g', toks := tk' }) →
      wpAny (model PySem.Challenge.rw_in0246_01.row.prog w) ((⟨none, dp, fr, gd, un⟩ : Around).deeper (envOf (Str.ofString "law") laScope L fa cd)) (call (.ref 50) [.str pat tp]) Q E s)
    (hjd : ∀ (s : Shared) (t : Tok) (E Q : Value → Shared → Prop), (hd.heap_39 w.params).In s.heap → Top p loose mean mg mb s.heap →
      (∀ r vs n' h' tk', (∀ b o, s.heap.get? b = some o → h'.get? b = some o) → s.heap.get? r = none → h'.get? r = some (listOf vs n') → JAt h' vs js → (∀ (i : Nat) q, vs[i]? = some (Value.ref q) → s.heap.get? q = none) → Q (.ref r) { s with heap := h', toks := tk' }) →
      wpAny (model PySem.Challenge.rw_in0246_01.row.prog w) ((⟨none, dp, fr, gd, un⟩ : Around).deeper (envOf (Str.ofString "law") laScope L fa cd)) (call (.ref 149) [.str text t]) Q E s)
    (hret : ∀ r vs n' ps' h' g' tk', (∀ b o, b ≠ 64 → s.heap.get? b = some o → h'.get? b = some o) → h'.get? 64 = some (tabObj ps') → Tb ps' → AllBare g' → s.heap.get? r = none → h'.get? r = some (listOf vs n') → JAt h' vs js → (∀ (i : Nat) q, vs[i]? = some (Value.ref q) → s.heap.get? q = none) →
      Q (.ref r) { s with heap := h', gens := g', toks := tk' }) :
    wpAny (model PySem.Challenge.rw_in0246_01.row.prog w) ((⟨none, dp, fr, gd, un⟩ : Around).deeper (envOf (Str.ofString "law") laScope L fa cd)) (eval laElt (compEnvC laCs [] C (envOf (Str.ofString "law") laScope L fa cd))) Q E s := by
  have hgh : ∀ b o, g.get? b = some o → (s.heap.hide 64).get? b = some o := fun b o e => by
    rw [Heap.hide_ne _ (fun q => by rw [q, h64] at e; cases e)]
    exact hg b o e
  revert X
  k_with_none
  k_fill
  (k_with "exec For Name Subscript cons nil" => (k_here; (rename Fr _ _ _ _ => lF'); (with_unfolding_all refine' For_invVF lF' ?k1 ?k2 ?_; (case k1 => exact rfl); (case k2 => exact rfl); k_whole)))
  (k_with "execs cons" => (first | (k_here; k_gentoks) | ((with_reducible refine Mine.execs_nx ?_); (try dsimp only))))
  (k_with "WhlPost" => dsimp only [Mine.Nx])
  (k_with "KswPost" => dsimp only [Mine.Nx])
  (k_with "InvPostN" => dsimp only [Mine.Nx])
  (k_with "UnrPost" => dsimp only [Mine.Nx])
  (k_with "storeName" => dsimp only)
  intro X
  conv in (eval laElt _) =>
    arg 1
    whnf
  refine wpAny_Call_NameR ?_
  refine' Calls.Name_function_global ?k1 ?k2 (Calls.loadGlobal_global (env := compEnvC _ _ C _) ?k3 ?k4 ?_) ?k5
  case k1 => rfl
  case k2 => rfl
  case k5 => decide
  case k3 => exact T.g.keeps hg
  case k4 => exact mg_of X T.g (by k_is)
  k_dflt (refine' callWith_K X ?k2 ?_; (case k2 => k_is))
  show wpAny _ _ (spliced [(false, eval _ _)]) _ _ _
  refine Calls.spliced_cons ?_
  refine wpAny_Call_NameR ?_
  refine' Calls.Name_function_global ?k1 ?k2 (Calls.loadGlobal_global (env := compEnvC _ _ C _) ?k3 ?k4 ?_) ?k5
  case k1 => rfl
  case k2 => rfl
  case k5 => decide
  case k3 => exact T.g.keeps hg
  case k4 => exact mg_of X T.g (by k_is)
  k_dflt (refine' callWith_K X ?k2 ?_; (case k2 => k_is))
  show wpAny _ _ (spliced [(false, eval _ _)]) _ _ _
  refine Calls.spliced_cons (cname (by rfl) (by rfl) hn hm (by decide) ?_)
  refine Calls.spliced_nil ⟨X.keeps hg, ?_⟩
  refine htr _ _ _ (X.keeps hgh) (T.keeps hgh) (hC.keeps hgh) ht hps hbare ?_
  intro t ps1 h1 g1 tk1 hk1 ht1 hps1 hb1
  have hg1 : ∀ b o, g.get? b = some o → h1.get? b = some o := fun b o e => hk1 b o (hgh b o e)
  refine Calls.spliced_nil ⟨X.keeps hg1, ?_⟩
  refine hjd ⟨h1, g1, s.drawn, tk1, s.os⟩ t _ _ (X.keeps hg1) (T.keeps hg1) ?_
  intro r vs n' h2 tk2 hk2 hr2 hl2 hJ hq
  have k1 : ∀ b o, b ≠ 64 → s.heap.get? b = some o → h1.get? b = some o := fun b o hb e => hk1 b o (by rw [Heap.hide_ne _ hb]; exact e)
  have none1 : ∀ b, h1.get? b = none → s.heap.get? b = none := fun b e => by
    cases q : s.heap.get? b with
    | none => rfl
    | some o =>
      by_cases hb : b = 64
      · subst hb; rw [ht1] at e; cases e
      · rw [k1 b o hb q] at e; cases e
  exact hret r vs n' ps1 h2 g1 tk2 (fun b o hb e => hk2 b o (k1 b o hb e)) (hk2 _ _ ht1) hps1 hb1 (none1 r hr2) hl2 hJ (fun i q e => none1 q (hq i q e))
end Mine
end
section
namespace Mine
open PySem.Calls PySem.Spec
theorem JAt.keepsBut {h h' : Heap} {xs : Array Value} {js : List (Nat × Nat)} (J : JAt h xs js) (hk : ∀ (i : Nat) q o, xs[i]? = some (Value.ref q) → h.get? q = some o → h'.get? q = some o) : JAt h' xs js :=
  ⟨J.1, fun i lo hi e => let ⟨q, tl, th, h1, h2⟩ := J.2 i lo hi e; ⟨q, tl, th, h1, h2.at fun o e => hk i q o h1 e⟩⟩
structure RowAt (h₁ h : Heap) (W : List Addr) (ys : List Value) (k : Nat) (js : List (Nat × Nat)) : Prop where
  ex : ∃ j vs n, ys[k]? = some (Value.ref j) ∧ h.get? j = some (listOf vs n) ∧ JAt h vs js ∧ h₁.get? j = none ∧ j ∉ W ∧ ∀ (i : Nat) q, vs[i]? = some (Value.ref q) → h₁.get? q = none ∧ q ∉ W
theorem RowAt.move {h₁ h h' : Heap} {W : List Addr} {ys ys' : List Value} {k : Nat} {js : List (Nat × Nat)} (R : RowAt h₁ h W ys k js) (hk : ∀ b o, h₁.get? b = none → b ∉ W → h.get? b = some o → h'.get? b = some o)
    (hy : ∀ v, ys[k]? = some v → ys'[k]? = some v) : RowAt h₁ h' W ys' k js := by
  obtain ⟨j, vs, n, e1, e2, e3, e4, e5, e6⟩ := R.ex
  exact ⟨j, vs, n, hy _ e1, hk _ _ e4 e5 e2, e3.keepsBut fun i q o e => hk q o (e6 i q e).1 (e6 i q e).2, e4, e5, e6⟩
theorem rows_G {w : World} {dp un : Nat} {fr : Option (List Env)} {gd : Option (List Code)} {p : Program} {loose : List Str} {mean : ExcName → Option Value} {mg mb : Str → Option Value} {s : Shared} {g : Heap} {L la fa : Addr} {cd : Value}
    {npat : Nat} {pats : Nat → Str} {jss : Nat → List (Nat × Nat)} {ps : Array Value} {v0 v1 v2 v3 v4 v5 v7 v8 v9 : Option Value} {Q : Flow → Shared → Prop} {E : Value → Shared → Prop}
    (X : (hd.heap_39 w.params).In g) (T : Top p loose mean mg mb g) (hdp : dp + 60 < recursionLimit) (hun : un + 200 < cLine) (hC : CodeHd g 68 64) (h64 : g.get? 64 = none)
    (F : Fr g L s.heap (lm v0 v1 v2 v3 v4 v5 (some (.ref la)) v7 v8 v9)) (ht : s.heap.get? 64 = some (tabObj ps)) (hL64 : L ≠ 64) (hps : Tb ps) (hbare : AllBare s.gens) (hnp : npat ≤ 2)
    (hpat : ∀ (s' : Shared) (E Q : Value → Shared → Prop), (∀ b o, s.heap.get? b = some o → s'.heap.get? b = some o) →
      (∀ r vs n' h' tk', (∀ b o, s'.heap.get? b = some o → h'.get? b = some o) → s'.heap.get? r = none → h'.get? r = some (listOf vs n') → vs.size = npat → (∀ (i : Nat) v, vs[i]? = some v → ∃ t, v = .str (pats i) t) → Q (.ref r) { s' with heap := h', toks := tk' }) →
      wpAny (model PySem.Challenge.rw_in0246_01.row.prog w) ((⟨none, dp, fr, gd, un⟩ : Around).deeper (envOf (Str.ofString "law") laScope L fa cd)) (call (.ref 142) [.ref la]) Q E s')
    (helt : ∀ (i : Nat) (s : Shared) (C : Addr) (m' : Str → Option Value) (tp : Tok) (ps : Array Value) (E Q : Value → Shared → Prop), i < npat → (∀ b o, g.get? b = some o → s.heap.get? b = some o) → s.heap.get? 64 = some (tabObj ps) → Tb ps → AllBare s.gens → s.heap.Ns C m' → m' (Str.ofString "pattern") = some (.str (pats i) tp) →
      (∀ r vs n' ps' h' g' tk', (∀ b o, b ≠ 64 → s.heap.get? b = some o → h'.get? b = some o) → h'.get? 64 = some (tabObj ps') → Tb ps' → AllBare g' → s.heap.get? r = none → h'.get? r = some (listOf vs n') → JAt h' vs (jss i) → (∀ (i : Nat) q, vs[i]? = some (Value.ref q) → s.heap.get? q = none) →
        Q (.ref r) { s with heap := h', gens := g', toks := tk' }) →
      wpAny (model PySem.Challenge.rw_in0246_01.row.prog w) ((⟨none, dp, fr, gd, un⟩ : Around).deeper (envOf (Str.ofString "law") laScope L fa cd)) (eval laElt (compEnvC laCs [] C (envOf (Str.ofString "law") laScope L fa cd))) Q E s)
    (hret : ∀ ra ys ps' h' g' tk', h'.get? 64 = some (tabObj ps') → Tb ps' → AllBare g' → (∀ b o, b ≠ 64 → b ≠ L → s.heap.get? b = some o → h'.get? b = some o) →
      h'.Ns L (fun z => if z = Str.ofString "rows" then some (.ref ra) else lm v0 v1 v2 v3 v4 v5 (some (.ref la)) v7 v8 v9 z) → s.heap.get? ra = none → h'.get? ra = some (listOf (List.toArray ys) ys.length) → ys.length = npat → (∀ k, k < npat → RowAt s.heap h' [] ys k (jss k)) → ys.Nodup →
      Q .next { s with heap := h', gens := g', toks := tk' }) :
    wpAny (model PySem.Challenge.rw_in0246_01.row.prog w) ((⟨none, dp, fr, gd, un⟩ : Around).deeper (envOf (Str.ofString "law") laScope L fa cd)) (exec laRows (envOf (Str.ofString "law") laScope L fa cd)) Q E s := by
  have hmu : g.get? 64 = none := h64
  revert X
  k_with_none
  k_fill
  (k_with "exec For Name Subscript cons nil" => (k_here; (rename Fr _ _ _ _ => lF'); (with_unfolding_all refine' For_invVF lF' ?k1 ?k2 ?_; (case k1 => exact rfl); (case k2 => exact rfl); k_whole)))
  (k_with "execs cons" => (first | (k_here; k_gentoks) | ((with_reducible refine Mine.execs_nx ?_); (try dsimp only))))
  (k_with "WhlPost" => dsimp only [Mine.Nx])
  (k_with "KswPost" => dsimp only [Mine.Nx])
  (k_with "InvPostN" => dsimp only [Mine.Nx])
  (k_with "UnrPost" => dsimp only [Mine.Nx])
  (k_with "storeName" => dsimp only)
  intro X
  have hnL := F.ns
  obtain ⟨oL, hoL⟩ : ∃ o, s.heap.get? L = some o := by obtain ⟨o, _, _, e, _⟩ := hnL; exact ⟨o, e⟩
  conv in (exec laRows _) =>
    arg 1
    whnf
  k_dflt (refine' assign_comp_G (P := 64) (cl := []) ?hsw ?hclos ?hcell ?hkind ?hnames ?hx ?hy ?hp ?hh ?h ?hs)
  case hsw => with_unfolding_all rfl
  case hclos => rfl
  case hcell => decide
  case hkind => rfl
  case hnames => decide
  case hx => rfl
  case hy => rfl
  case hp => rfl
  case hh => rfl
  case hs => intro _; with_unfolding_all rfl
  case h =>
    refine wpAny_Call_NameR ?_
    refine' Calls.Name_function_global ?k1 ?k2 (Calls.loadGlobal_global (env := envOf _ _ _ _ _) ?k3 ?k4 ?_) ?k5
    case k1 => rfl
    case k2 => rfl
    case k5 => decide
    case k3 => exact T.g.keeps F.keep
    case k4 => exact mg_of X T.g (by k_is)
    k_dflt (refine' callWith_K X ?k2 ?_; (case k2 => k_is))
    show wpAny _ _ (spliced [(false, eval _ _)]) _ _ _
    refine Calls.spliced_cons (nameX_L (cl := []) F (by rfl) ?_)
    refine Calls.spliced_nil ⟨X.keeps F.keep, ?_⟩
    refine hpat _ _ _ (fun _ _ e => e) ?_
    intro r vs n' h1 tk1 hk1 hr1 hl1 hsz1 hv1
    have ht1 := hk1 _ _ ht
    have hL1 := hk1 _ _ hoL
    have hgL : g.get? L = none := Heap.get?_none_of_le F.above
    have n64 : ∀ W : List Addr, (∀ b ∈ W, h1.get? b = none) → (64 : Addr) ∉ W := fun W hW q => by rw [hW _ q] at ht1; cases ht1
    have notL : ∀ b, h1.get? b = none → b ≠ L := fun b e q => by rw [q, hL1] at e; cases e
    have not64 : ∀ b, h1.get? b = none → b ≠ 64 := fun b e q => by rw [q, ht1] at e; cases e
    refine ⟨r, vs, lm v0 v1 v2 v3 v4 v5 (some (.ref la)) v7 v8 v9, (fun W i ys s' => ys.length = i ∧ (∃ ps', s'.heap.get? 64 = some (tabObj ps') ∧ Tb ps') ∧ AllBare s'.gens ∧ (∀ b o, b ≠ 64 → b ≠ L → h1.get? b = some o → s'.heap.get? b = some o) ∧ (∀ k, k < i → RowAt h1 s'.heap W ys k (jss k)) ∧ ys.Nodup), rfl, ?_⟩
    refine ⟨⟨_, hl1, rfl, n', rfl⟩, (fun q => by rw [q, ht] at hr1; cases hr1), hL64, hnL.at' fun o e => hk1 _ o e, by (first | lia | omega), ⟨_, ht1⟩, ?_, ?_, ?_, ?_⟩
    · exact fun W hW => ⟨rfl, ⟨ps, ht1, hps⟩, hbare, fun b o _ _ e => e, fun k hk => absurd hk (Nat.not_lt_zero _), List.nodup_nil⟩
    · rintro W i ys s' s'' hW hk hg ⟨j1, ⟨ps', j2, j2'⟩, j3, j4, j5, j6⟩
      refine ⟨j1, ⟨ps', hk 64 _ (n64 W hW) (Ne.symm hL64) j2, j2'⟩, hg ▸ j3, fun b o b1 b2 e => hk b o (fun q => by have := hW b q; dsimp only at this; rw [e] at this; cases this) b2 (j4 b o b1 b2 e), fun k hk' => ?_, j6⟩
      exact (j5 k hk').move (fun b o e1 e2 e3 => hk b o e2 (notL b e1) e3) (fun _ e => e)
    · rintro W i ys s' C m' v E' hW hWl ⟨j1, ⟨ps', j2, j2'⟩, j3, j4, j5, j6⟩ ⟨oL', hL'⟩ hd ho hv hn' hm'
      have hL' : s'.heap.get? L = some oL' := hL'
      have hi : i < npat := by
        rcases Nat.lt_or_ge i vs.size with h | h
        · (first | lia | omega)
        · rw [Array.getElem?_eq_none h] at hv; cases hv
      obtain ⟨tp, rfl⟩ := hv1 i v hv
      refine helt i s' C m' tp ps' E' _ hi (fun b o e => ?_) j2 j2' j3 hn' hm' ?_
      · exact j4 b o (fun q => by rw [q, h64] at e; cases e) (fun q => by rw [q, hgL] at e; cases e) (hk1 b o (F.keep b o e))
      intro r2 vs2 n2 ps2 h2 g2 tk2 k2 t2 p2 b2 r2n l2 J2 q2
      have back : ∀ b, s'.heap.get? b = none → h1.get? b = none ∧ b ∉ W := by
        intro b e
        refine ⟨?_, fun q => by obtain ⟨o, e'⟩ := hWl b q; rw [e] at e'; cases e'⟩
        cases q : h1.get? b with
        | none => rfl
        | some o =>
          by_cases hb : b = 64
          · rw [hb, j2] at e; cases e
          · by_cases hb' : b = L
            · rw [hb', hL'] at e; cases e
            · rw [j4 b o hb hb' q] at e; cases e
      refine ⟨⟨by simp [j1], ⟨ps2, t2, p2⟩, b2, fun b o b1 b3 e => k2 b o b1 (j4 b o b1 b3 e), ?_, ?_⟩, k2, rfl, rfl⟩
      · intro k hk
        by_cases hki : k < i
        · refine (j5 k hki).move (fun b o e1 e2 e3 => k2 b o (not64 b e1) e3) (fun v e => ?_)
          rw [List.getElem?_append_left (by (first | lia | omega))]; exact e
        · have hke : k = i := by (first | lia | omega)
          subst hke
          refine ⟨r2, vs2, n2, ?_, l2, J2, (back r2 r2n).1, (back r2 r2n).2, fun i q e => back q (q2 i q e)⟩
          rw [List.getElem?_append_right (by (first | lia | omega)), j1, Nat.sub_self]
          rfl
      · refine List.nodup_append.mpr ⟨j6, by simp, ?_⟩
        intro a ha b hb q
        rw [List.mem_singleton.mp hb] at q
        subst q
        obtain ⟨k, hk⟩ := List.mem_iff_getElem?.mp ha
        have hki : k < i := by
          rcases Nat.lt_or_ge k ys.length with h | h
          · (first | lia | omega)
          · rw [List.getElem?_eq_none h] at hk; cases hk
        obtain ⟨j, vs', n'', e1, e2, _⟩ := (j5 k hki).ex
        rw [hk] at e1
        cases e1
        rw [r2n] at e2; cases e2
    · rintro W D ys ⟨hp, gn, dr, tk, os⟩ hW ⟨j1, ⟨ps', j2, j2'⟩, j3, j4, j5, j6⟩ hD hD' hN hd ho
      dsimp only at hd ho hD' hN j2 j3 j4 j5
      subst hd ho
      have sNone : ∀ b, h1.get? b = none → s.heap.get? b = none := fun b e => by
        cases q : s.heap.get? b with
        | none => rfl
        | some o => rw [hk1 b o q] at e; cases e
      refine hret D ys ps' hp gn tk j2 j2' j3 (fun b o b1 b2 e => j4 b o b1 b2 (hk1 b o e)) hN (sNone D hD) hD' (by rw [j1, hsz1]) (fun k hk => ?_) j6
      obtain ⟨j, vs', n'', e1, e2, e3, e4, e5, e6⟩ := (j5 k (by (first | lia | omega))).ex
      exact ⟨j, vs', n'', e1, e2, e3, sNone j e4, by simp, fun i q e => ⟨sNone q (e6 i q e).1, by simp⟩⟩
end Mine
end
section
namespace Mine
open PySem.SeqAt
section
variable {prog : Program} {w : World} {A : Around} {E : Value → Shared → Prop} {s : Shared}
/-- [] in a list of lists that hold something -/
theorem in_rows {ra e : Addr} {items : Array Value} {Q : Value → Shared → Prop} (hl : s.heap.IsList ra items) (he : s.heap.IsList e #[])
    (hit : ∀ y, y ∈ items → ∃ j vs, y = Value.ref j ∧ s.heap.IsList j vs ∧ vs.size ≠ 0 ∧ j ≠ e) (hu : A.in1.units < cLine) (h : Q (.bool false) s) :
    wpAny (model prog w) A (compareOp .In (.ref e) (.ref ra)) Q E s := by
  refine in_listAt (fun _ => false) hl (fun y hy => ?_) ?_
  · obtain ⟨j, vs, rfl, hj, hz, hne⟩ := hit y hy
    exact EqAt.of_refs hne (RcAt.lists_lengths hj he (by simpa using hz) hu)
  · have : (items.any fun _ => false) = false := by simp
    rw [this]
    exact h
end
end Mine
end
section
namespace Mine
theorem one_list {ys : List Value} {a : Value} (h : ys.length = 1) (e : ys[0]? = some a) : ys = [a] := by
  obtain ⟨y, rfl⟩ := List.length_eq_one_iff.mp h
  rw [Option.some.inj e]
theorem two_list {ys : List Value} {a b : Value} (h : ys.length = 2) (e : ys[0]? = some a) (f : ys[1]? = some b) : ys = [a, b] := by
  cases ys with
  | nil => cases h
  | cons y r =>
    cases r with
    | nil => cases h
    | cons z r2 =>
      cases r2 with
      | nil => rw [show y = a from Option.some.inj e, show z = b from Option.some.inj f]
      | cons _ _ => cases h
theorem one_item_ {a : Value} {P : Value → Prop} (h0 : P a) : ∀ (i : Nat) v, (#[a] : Array Value)[i]? = some v → P v
  | 0, _, e => Option.some.inj e ▸ h0
  | i + 1, _, e => by simp at e
theorem two_items_ {a b : Value} {P : Value → Prop} (h0 : P a) (h1 : P b) : ∀ (i : Nat) v, (#[a, b] : Array Value)[i]? = some v → P v
  | 0, _, e => Option.some.inj e ▸ h0
  | 1, _, e => Option.some.inj e ▸ h1
  | i + 2, _, e => by simp at e
theorem two_refs {vs : Array Value} {q0 q1 : Addr} {P : Addr → Prop} (hs : vs.size = 2) (f0 : vs[0]? = some (Value.ref q0)) (f1 : vs[1]? = some (Value.ref q1)) (h0 : P q0) (h1 : P q1) : ∀ (i : Nat) q, vs[i]? = some (Value.ref q) → P q
  | 0, q, e => by rw [f0] at e; cases e; exact h0
  | 1, q, e => by rw [f1] at e; cases e; exact h1
  | i + 2, q, e => by rw [Array.getElem?_eq_none (by omega)] at e; cases e
theorem three_refs {vs : Array Value} {q0 q1 q2 : Addr} {P : Addr → Prop} (hs : vs.size = 3) (f0 : vs[0]? = some (Value.ref q0)) (f1 : vs[1]? = some (Value.ref q1)) (f2 : vs[2]? = some (Value.ref q2)) (h0 : P q0) (h1 : P q1) (h2 : P q2) : ∀ (i : Nat) q, vs[i]? = some (Value.ref q) → P q
  | 0, q, e => by rw [f0] at e; cases e; exact h0
  | 1, q, e => by rw [f1] at e; cases e; exact h1
  | 2, q, e => by rw [f2] at e; cases e; exact h2
  | i + 3, q, e => by rw [Array.getElem?_eq_none (by omega)] at e; cases e
/-- an object that lies among others is where they are kept -/
theorem kept_at {h h' : Heap} {q : Addr} {ob : Obj} (g : h.get? q = some ob) (k : h'.get? q = some ob) : ∀ o, h.get? q = some o → h'.get? q = some o := fun o e => by
  rw [g] at e
  cases e
  exact k
/-- from the look at the rows on -/
def laEnd : List Stmt := laBody.drop 8
/-- what law does behind its rows: whatever the limits are -/
theorem tail_end {w : World} {dp un : Nat} {fr : Option (List Env)} {gd : Option (List Code)} {p : Program} {loose : List Str} {mean : ExcName → Option Value} {mg mb : Str → Option Value} {s : Shared} {g : Heap} {L ca wa ra fa : Addr} {cd : Value}
    {a c0 c1 c2 c3 : Int} {ta k0 k1 k2 k3 : Tok} {nc nW nr : Nat} {ps : Array Value} {v0 v1 v4 v5 v6 : Option Value} {items : Array Value} {vsW : List Value} {ws : List Int} {rest : List (Addr × Obj)} {jsOf : Addr → List (Nat × Nat)} {clear : Int → Prop} {Q : Flow → Shared → Prop} {E : Value → Shared → Prop}
    (X : (hd.heap_39 w.params).In g) (T : Top p loose mean mg mb g) (hdp : dp + 60 < recursionLimit) (hun : un + 200 < cLine)
    (F : Fr g L s.heap (lm v0 v1 (some (.ref ca)) (some (.int a ta)) v4 v5 v6 (some (.ref wa)) (some (.ref ra)) none))
    (N : News g L s.heap ((ra, listOf items nr) :: (wa, listOf vsW.toArray nW) :: (ca, listOf #[.int c0 k0, .int c1 k1, .int c2 k2, .int c3 k3] nc) :: (64, tabObj ps) :: rest))
    (hitems : items.size ≤ 10) (hrows : ∀ (i : Nat) v, items[i]? = some v → ∃ j vs n, v = Value.ref j ∧ (j, listOf vs n) ∈ rest ∧ vs.size ≠ 0 ∧ (∀ h', (∀ z ∈ rest, h'.get? z.1 = some z.2) → JAt h' vs (jsOf j)) ∧ (jsOf j).length ≤ 10)
    (hiW : IntsAre vsW ws) (hwl : ws.length ≤ 3000000) (wpos : ∀ x ∈ ws, 0 < x ∧ x < 1073741824) (ha0 : 1 ≤ a) (ha1 : a ≤ 9)
    (hplain : ∀ nn : Nat, 1 ≤ nn → nn ≤ 40 → ∃ (root TT : Nat) (Iv : List Int → List Int → Prop), greedyI (nn : Int) ws = (root : Int) ∧ 1 ≤ root ∧ root < TT ∧ TT ≤ 16 ^ 15 ∧ NLaw (root : Int) a (TT : Int) clear Iv ∧ ∀ H N, Iv H N → N.length = 9 → ∃ k, RowRun ws (root : Int) 9 N k [] 1 (nn : Int))
    (hclear : ∀ n, clear n ↔ ∀ (i : Nat) j, items[i]? = some (Value.ref j) → takesB (jsOf j) (wordS n).cps.toList = false)
    (hps : Tb ps) (hbare : AllBare s.gens)
    (hret : ∀ h' g' tk' m' ps', Fr g L h' m' → News g L h' [(64, tabObj ps')] → Tb ps' → AllBare g' → Q (.ret (.bool true)) { s with heap := h', gens := g', toks := tk' }) :
    wpAny (model PySem.Challenge.rw_in0246_01.row.prog w) ((⟨none, dp, fr, gd, un⟩ : Around).deeper (envOf (Str.ofString "law") laScope L fa cd)) (execs laEnd (envOf (Str.ofString "law") laScope L fa cd)) Q E s := by
  revert X
  k_with_none
  k_fill
  (k_with "exec For Name Subscript cons nil" => (k_here; (rename Fr _ _ _ _ => lF'); (with_unfolding_all refine' For_invVF lF' ?k1 ?k2 ?_; (case k1 => exact rfl); (case k2 => exact rfl); k_whole)))
  (k_with "execs cons" => (first | (k_here; k_gentoks) | ((with_reducible refine Mine.execs_nx ?_); (try dsimp only))))
  (k_with "WhlPost" => dsimp only [Mine.Nx])
  (k_with "KswPost" => dsimp only [Mine.Nx])
  (k_with "InvPostN" => dsimp only [Mine.Nx])
  (k_with "UnrPost" => dsimp only [Mine.Nx])
  (k_with "storeName" => dsimp only)
  (k_with "compareOp In ref ref" => refine Mine.hold ?_)
  intro X
  conv in (execs laEnd _) =>
    arg 1
    whnf
  conv in (occs := *) (envOf _ laScope _ _ _) =>
    all_goals (arg 2; whnf)
  (try k_fold)
  k_steps
  refine unhold ?_
  rename Fr _ _ _ _ => F'
  rename News _ _ _ _ => N'
  refine in_rows (items := items) (News.isList N' (.tail _ (.head _))) (News.isList N' (.head _)) ?_ ?_ ?_
  · intro y hy
    obtain ⟨i, hi⟩ := List.getElem?_of_mem (Array.mem_toList_iff.mpr hy)
    obtain ⟨j, vs, n, rfl, hj, hz, _, _⟩ := hrows i y (by simpa using hi)
    have hjj := News.get N' (.tail _ (.tail _ (.tail _ (.tail _ (.tail _ hj)))))
    refine ⟨j, vs, rfl, ⟨_, hjj, rfl, _, rfl⟩, hz, fun q => ?_⟩
    rw [q, News.get N' (.head _)] at hjj
    cases hjj
    exact hz rfl
  · exact Mine.rm (j := 4) hun rfl
  have N4 := fun z hz => N' z (List.Mem.tail _ hz)
  clear N'
  k_steps
  rename Fr _ _ _ _ => F'
  rename News _ _ _ _ => N'
  have hm0 := fun c : Int => Int.fmod_nonneg_of_pos c (show (0 : Int) < 40 by decide)
  have hm1 := fun c : Int => Int.fmod_lt_of_pos c (show (0 : Int) < 40 by decide)
  generalize hcc : Int.fmod _ 40 = cc at *
  have hc0 : 0 ≤ cc := hcc ▸ hm0 _
  have hc1 : cc < 40 := hcc ▸ hm1 _
  clear hm0 hm1 hcc
  obtain ⟨nn, hnn⟩ := Int.eq_ofNat_of_zero_le (show 0 ≤ 1 + cc by (first | lia | omega))
  rw [hnn] at F' ⊢
  obtain ⟨root, TT, Iv, hg, hr1, hrT, hTT, NL, hrun⟩ := hplain nn (by (first | lia | omega)) (by (first | lia | omega))
  clear hplain hc0 hc1 hnn
  with_unfolding_all refine' greedy_spec (X.keeps F'.keep) (T.keeps F'.keep) ?d ?u (News.isList N' (.tail _ (.head _))) hiW hwl wpos ?_
  case d => (show dp + 1 + 5 < _; exact Mine.rm (j := 6) hdp rfl)
  case u => (show un + 3 + 20 < _; exact Mine.rm (j := 23) hun rfl)
  intro t10 h10 tk10 hk10
  have F10 := fr_keep F' hk10
  have N10 := news_keep N' hk10
  clear F' N' hk10
  rw [hg]
  k_steps
  with_unfolding_all refine' noted_spec (jsOf := jsOf) (items := items) (T := (TT : Int)) (clear := clear) (Inv := Iv) (X.keeps F10.keep) (T.keeps F10.keep) ?d ?u (News.isList N10 (.head _)) hitems ?rows ?clear ?TT ?ta ?tb ?ra ?rb NL ?_
  case d => (show dp + 1 + 40 < _; exact Mine.rm (j := 41) hdp rfl)
  case u => (show un + 3 + 120 < _; exact Mine.rm (j := 123) hun rfl)
  case TT => exact_mod_cast hTT
  case ta => exact Int.le_trans (by decide) ha0
  case tb => exact Int.le_trans ha1 (by decide)
  case ra => exact_mod_cast hr1
  case rb => exact_mod_cast hrT
  case rows =>
    intro i v hv
    obtain ⟨j, vs, n, rfl, hj, _, hJ, hl⟩ := hrows i v hv
    exact ⟨j, vs, rfl, ⟨_, News.get N10 (.tail _ (.tail _ (.tail _ (.tail _ hj)))), rfl, _, rfl⟩, hJ _ fun z hz => News.get N10 (.tail _ (.tail _ (.tail _ (.tail _ hz)))), hl⟩
  case clear => exact fun n _ _ => hclear n
  intro rN vsN nN NN HH h11 tk11 hk11 hr11 hg11 hiN hI hN9
  have F11 := fr_keep F10 hk11
  have N11 := news_new F10 N10 hk11 hr11 hg11
  clear F10 N10 hk11 hr11 hg11
  obtain ⟨kk, hkk⟩ := hrun HH NN hI hN9
  k_steps
  with_unfolding_all refine' row_spec (res := NN) (k0 := kk) (X.keeps F11.keep) (T.keeps F11.keep) ?d ?u (News.isList N11 (.tail _ (.tail _ (.head _)))) hiW hwl wpos (by decide) ?g0 ?g1 ?run ?_
  case d => (show dp + 1 + 10 < _; exact Mine.rm (j := 11) hdp rfl)
  case u => (show un + 3 + 40 < _; exact Mine.rm (j := 43) hun rfl)
  case g0 => rw [hg]; (first | lia | omega)
  case g1 => rw [hg]; (first | lia | omega)
  case run => rw [hg]; exact hkk
  intro r2 vs2 n2 h12 tk12 hk12 hr12 hg12 hi12
  have F12 := fr_keep F11 hk12
  have N12 := news_new F11 N11 hk12 hr12 hg12
  clear F11 N11 hk12 hr12 hg12
  k_steps
  refine hret _ _ _ _ _ F12 (fun z hz => ?_) hps hbare
  rcases List.mem_cons.mp hz with rfl | hz
  · exact N12 _ (.tail _ (.tail _ (.tail _ (.tail _ (.tail _ (.head _))))))
  · cases hz
end Mine
end
section
namespace Mine
theorem trText2_no {x y : Nat} (h : ¬ x < y) : trText [x] x y = ⟨#[40, 63, 115, 58, 40, 63, 62, 46, 42, 63, x, 91, y, 45, x, 93, 41, 46, 42, 41, 92, 90]⟩ := by
  unfold trText
  rw [brText_no h]
  with_unfolding_all rfl
theorem fr_fresh {g h : Heap} {L b : Addr} {m : Str → Option Value} (F : Fr g L h m) (e : h.get? b = none) : b ≠ L ∧ g.get? b = none := by
  constructor
  · intro q
    obtain ⟨o, _, _, e', _⟩ := F.ns
    rw [q, e'] at e
    cases e
  · cases q : g.get? b with
    | none => rfl
    | some o => rw [F.keep b o q] at e; cases e
theorem news_moved {g h h' : Heap} {L : Addr} {news : List (Addr × Obj)} (N : News g L h news) (hk : ∀ b o, b ≠ 64 → b ≠ L → h.get? b = some o → h'.get? b = some o) (hn : ∀ p ∈ news, p.1 ≠ 64) : News g L h' news :=
  fun p hp => ⟨hk _ _ (hn p hp) (N p hp).2.1 (N p hp).1, (N p hp).2⟩
theorem news_cons {g h : Heap} {L b : Addr} {o : Obj} {news : List (Addr × Obj)} (N : News g L h news) (e : h.get? b = some o) (hb : b ≠ L ∧ g.get? b = none) : News g L h ((b, o) :: news) := by
  intro p hp
  rcases List.mem_cons.mp hp with rfl | hp
  · exact ⟨e, hb⟩
  · exact N p hp
theorem news_three {g h : Heap} {L : Addr} {x y z t : Addr × Obj} (N : News g L h [x, y, z, t]) : News g L h [x, y, z] := by
  intro p hp
  rcases List.mem_cons.mp hp with rfl | hp
  · exact N _ (.head _)
  · rcases List.mem_cons.mp hp with rfl | hp
    · exact N _ (.tail _ (.head _))
    · rcases List.mem_cons.mp hp with rfl | hp
      · exact N _ (.tail _ (.tail _ (.head _)))
      · cases hp
theorem news_64 {g h : Heap} {L a b c : Addr} {xs ys zs ps : Array Value} {k m n : Nat} (N : News g L h [(a, listOf xs k), (b, listOf ys m), (c, listOf zs n), (64, tabObj ps)]) :
    ∀ p ∈ [(a, listOf xs k), (b, listOf ys m), (c, listOf zs n)], p.1 ≠ 64 := by
  have h64 := News.get N (.tail _ (.tail _ (.tail _ (.head _))))
  have nl : ∀ (b : Addr) (xs : Array Value) (k : Nat), h.get? b = some (listOf xs k) → b ≠ 64 := fun b xs k e q => by
    rw [q, h64] at e
    cases e
  intro p hp
  rcases List.mem_cons.mp hp with rfl | hp
  · exact nl _ _ _ (News.get N (.head _))
  · rcases List.mem_cons.mp hp with rfl | hp
    · exact nl _ _ _ (News.get N (.tail _ (.head _)))
    · rcases List.mem_cons.mp hp with rfl | hp
      · exact nl _ _ _ (News.get N (.tail _ (.tail _ (.head _))))
      · cases hp
theorem tail2 {w : World} {dp un : Nat} {fr : Option (List Env)} {gd : Option (List Code)} {p : Program} {loose : List Str} {mean : ExcName → Option Value} {mg mb : Str → Option Value} {s : Shared} {g : Heap} {L ca fa : Addr} {cd : Value}
    {a b c0 c1 c2 c3 : Int} {ta tb tc k0 k1 k2 k3 : Tok} {nc : Nat} {ps : Array Value} {v0 v1 : Option Value} {Q : Flow → Shared → Prop} {E : Value → Shared → Prop}
    (X : (hd.heap_39 w.params).In g) (T : Top p loose mean mg mb g) (hdp : dp + 60 < recursionLimit) (hun : un + 200 < cLine) (hC : CodeHd g 68 64) (h64 : g.get? 64 = none)
    (F : Fr g L s.heap (lm v0 v1 (some (.ref ca)) (some (.int a ta)) (some (.int b tb)) (some (.int 0 tc)) none none none none))
    (N : News g L s.heap [(ca, listOf #[.int c0 k0, .int c1 k1, .int c2 k2, .int c3 k3] nc), (64, tabObj ps)]) (hca : (64 : Nat) < ca) (hps : Tb ps) (hbare : AllBare s.gens)
    (ha0 : 1 ≤ a) (ha1 : a ≤ 9) (hb0 : 1 ≤ b) (hb1 : b ≤ a)
    (hret : ∀ h' g' tk' m' ps', Fr g L h' m' → News g L h' [(64, tabObj ps')] → Tb ps' → AllBare g' → Q (.ret (.bool true)) { s with heap := h', gens := g', toks := tk' }) :
    wpAny (model PySem.Challenge.rw_in0246_01.row.prog w) ((⟨none, dp, fr, gd, un⟩ : Around).deeper (envOf (Str.ofString "law") laScope L fa cd)) (execs laTail (envOf (Str.ofString "law") laScope L fa cd)) Q E s := by
  k_lt2 hca
  revert X
  k_with_none
  k_fill
  (k_with "exec For Name Subscript cons nil" => (k_here; (rename Fr _ _ _ _ => lF'); (with_unfolding_all refine' For_invVF lF' ?k1 ?k2 ?_; (case k1 => exact rfl); (case k2 => exact rfl); k_whole)))
  (k_with "execs cons" => (first | (k_here; k_gentoks) | ((with_reducible refine Mine.execs_nx ?_); (try dsimp only))))
  (k_with "WhlPost" => dsimp only [Mine.Nx])
  (k_with "KswPost" => dsimp only [Mine.Nx])
  (k_with "InvPostN" => dsimp only [Mine.Nx])
  (k_with "UnrPost" => dsimp only [Mine.Nx])
  (k_with "storeName" => dsimp only)
  (k_with "exec Assign cons ListComp" => refine Mine.hold ?_)
  (k_with "compareOp In ref ref" => refine Mine.hold ?_)
  intro X
  conv in (execs laTail _) =>
    arg 1
    whnf
  conv in (occs := *) (envOf _ laScope _ _ _) =>
    all_goals (arg 2; whnf)
  (try k_fold)
  k_steps
  rename Fr _ _ _ _ => F'
  rename News _ _ _ _ => N'
  with_unfolding_all refine' weights_spec (vs := [.int a ta, .int b tb]) (ns := [a, b]) (X.keeps F'.keep) (T.keeps F'.keep) ?d ?u (News.isList N' (.head _)) (.cons a ta (.cons b tb .nil)) (Nat.le_refl _) (Nat.le_succ _) ?pos ?_
  case d => (show dp + 1 + 10 < _; exact Mine.rm (j := 11) hdp rfl)
  case u => (show un + 3 + 40 < _; exact Mine.rm (j := 43) hun rfl)
  case pos =>
    intro z hz
    rcases List.mem_cons.mp hz with rfl | hz
    · (first | lia | omega)
    · rcases List.mem_cons.mp hz with rfl | hz
      · (first | lia | omega)
      · cases hz
  intro wa vsW nW ws h9 tk9 hk9 hr9 hg9 hiW hW hnl
  have F9 := fr_keep F' hk9
  have N9 := news_new F' N' hk9 hr9 hg9
  clear F' N' hk9 hr9 hg9
  k_steps
  refine unhold ?_
  rename Fr _ _ _ _ => F'
  rename News _ _ _ _ => N'
  have F2 : Fr g L _ (lm v0 v1 (some (.ref ca)) (some (.int a ta)) (some (.int b tb)) (some (.int 0 tc)) (some (.ref _)) (some (.ref wa)) none none) :=
    fr_lm F' rfl rfl rfl rfl rfl rfl rfl rfl rfl rfl (by (intros; repeat (first | (apply Mine.lmn <;> assumption) | refine Mine.ifn (by assumption) ?_)))
  clear F'
  obtain ⟨A, rfl⟩ := Int.eq_ofNat_of_zero_le (show 0 ≤ a by (first | lia | omega))
  obtain ⟨B, rfl⟩ := Int.eq_ofNat_of_zero_le (show 0 ≤ b by (first | lia | omega))
  have hL64 : L ≠ 64 := fun q => by
    obtain ⟨o, es, ep, e, hd, _⟩ := F2.ns
    rw [q, News.get N' (.tail _ (.tail _ (.tail _ (.head _))))] at e
    cases e; cases hd
  refine rows_G (s := ⟨_, _, _, _, _⟩) (npat := 1) (pats := fun _ => ⟨#[42, 65 + A, 91, 65 + B, 45, 65 + A, 93, 42]⟩) (jss := fun _ => [(65 + A, 65 + A), (65 + B, 65 + A)]) X T hdp hun hC h64 F2 (News.get N' (.tail _ (.tail _ (.tail _ (.head _))))) hL64 hps hbare (by decide) ?hpat ?helt ?hrows
  case hpat =>
    intro s' E' Q' hk hq
    have kk : ∀ b o, g.get? b = some o → s'.heap.get? b = some o := fun b o e => hk b o (F2.keep b o e)
    with_unfolding_all refine' patterns2_spec (X.keeps kk) (T.keeps kk) ?d ?u ((News.isList N' (.tail _ (.head _))).at fun o e => hk _ o e) ha0 ha1 hb0 (by (first | lia | omega)) ?_
    case d => (show dp + 1 + 10 < _; exact Mine.rm (j := 11) hdp rfl)
    case u => (show un + 3 + 40 < _; exact Mine.rm (j := 43) hun rfl)
    intro r t n' h' tk' k1 r1 l1
    refine hq r _ n' h' tk' k1 r1 l1 rfl ?_
    intro i v hv
    match i, hv with
    | 0, hv => cases hv; exact ⟨t, rfl⟩
    | i + 1, hv => simp at hv
  case helt =>
    intro i s' C m' tp ps' E' Q' _ hg ht' hps' hb' hn' hm' hq
    refine elt_G (text := trText [65 + A] (65 + A) (65 + B)) (js := [(65 + A, 65 + A), (65 + B, 65 + A)]) X T hdp hun hC h64 hg ht' hps' hb' hn' hm' ?_ ?_ hq
    · intro s'' E'' Q'' x1 t1 c1 tb1 p1 b1 q1
      with_unfolding_all refine' translate2_spec x1 t1 ?d ?u c1 tb1 p1 b1 (by (first | lia | omega)) (by (first | lia | omega)) (by (first | lia | omega)) (by (first | lia | omega)) q1
      case d => (show dp + 1 + 30 < _; exact Mine.rm (j := 31) hdp rfl)
      case u => (show un + 3 + 100 < _; exact Mine.rm (j := 103) hun rfl)
    · intro s'' t E'' Q'' x1 t1 q1
      rw [trText2_no (by (first | lia | omega))]
      with_unfolding_all refine' judges2_spec x1 t1 ?d ?u (by (first | lia | omega)) (by (first | lia | omega)) (by (first | lia | omega)) (by (first | lia | omega)) q1
      case d => (show dp + 1 + 10 < _; exact Mine.rm (j := 11) hdp rfl)
      case u => (show un + 3 + 40 < _; exact Mine.rm (j := 43) hun rfl)
  case hrows =>
    intro ra ys ps2 h2 g2 tk2 ht2 hps2 hb2 hk2 hN2 hra hga hyl hrow hnd
    obtain ⟨j, vs, n, e1, e2, e3, e4, e5, e6⟩ := (hrow 0 (by decide)).ex
    have hys : ys = [Value.ref j] := one_list hyl e1
    subst hys
    obtain ⟨q0, t0, u0, f0, o0, g0, cl0, m0, d0⟩ := e3.2 0 _ _ rfl
    obtain ⟨q1, t1, u1, f1, o1, g1, cl1, m1, d1⟩ := e3.2 1 _ _ rfl
    have hgL : g.get? L = none := Heap.get?_none_of_le F2.above
    have F3 : Fr g L h2 (lm v0 v1 (some (.ref ca)) (some (.int A ta)) (some (.int B tb)) (some (.int 0 tc)) (some (.ref _)) (some (.ref wa)) (some (.ref ra)) none) :=
      fr_lm ⟨hN2, fun b o e => hk2 b o (fun q => by rw [q, h64] at e; cases e) (fun q => by rw [q, hgL] at e; cases e) (F2.keep b o e), F2.above⟩ rfl rfl rfl rfl rfl rfl rfl rfl rfl rfl (by (intros; repeat (first | (apply Mine.lmn <;> assumption) | refine Mine.ifn (by assumption) ?_)))
    have M := news_moved (news_three N') hk2 (news_64 N')
    have R3 := news_cons (news_cons (news_cons News.nil g1 (fr_fresh F2 (e6 1 q1 f1).1)) g0 (fr_fresh F2 (e6 0 q0 f0).1)) e2 (fr_fresh F2 e4)
    have N3 := news_cons (news_cons (news_cons (news_cons R3 ht2 ⟨Ne.symm hL64, h64⟩) (M _ (.tail _ (.tail _ (.head _)))).1 (M _ (.tail _ (.tail _ (.head _)))).2) (M _ (.head _)).1 (M _ (.head _)).2) hga (fr_fresh F2 hra)
    obtain ⟨K, rfl⟩ := wts2 hW
    have L2 := lim2_ok (a := A) (b := B) (by (first | lia | omega)) (by (first | lia | omega)) (by (first | lia | omega))
    have big := wts_big L2 hnl
    have hf := fin2 ⟨A - 1, by (first | lia | omega)⟩ ⟨B - 1, by (first | lia | omega)⟩ (show B - 1 ≤ A - 1 by (first | lia | omega))
    dsimp only at hf
    rw [show A - 1 + 1 = A by (first | lia | omega), show B - 1 + 1 = B by (first | lia | omega)] at hf
    have wf := wts_facts (lims := [(A : Int), (B : Int)]) (by
      intro z hz
      rcases List.mem_cons.mp hz with rfl | hz
      · (first | lia | omega)
      · rcases List.mem_cons.mp hz with rfl | hz
        · (first | lia | omega)
        · cases hz) (Nat.le_refl _) (Nat.le_succ _) hW
    have wl := wf.len
    have wt := wf.top
    refine tail_end (s := ⟨_, _, _, _, _⟩) (jsOf := fun _ => [(65 + A, 65 + A), (65 + B, 65 + A)]) (clear := fun m => takesB [(65 + A, 65 + A), (65 + B, 65 + A)] (wordS m).cps.toList = false) X T hdp hun F3 N3 (Nat.le_of_ble_eq_true rfl) ?rows hiW (by (first | lia | omega)) (fun x hx => ⟨by have := wf.ge x hx; (first | lia | omega), by have := wf.le x hx; (first | lia | omega)⟩) ha0 ha1 ?plain (fun n => ⟨fun h _ _ _ => h, fun h => h 0 j rfl⟩) hps2 hb2 hret
    case rows =>
      refine one_item_ ⟨j, vs, n, rfl, .head _, by have : vs.size = 2 := e3.1; (first | lia | omega), fun h' hz => e3.keepsBut (fun i q o hq ho => ?_), Nat.le_of_ble_eq_true rfl⟩
      exact two_refs (P := fun q => ∀ o, h2.get? q = some o → h'.get? q = some o) e3.1 f0 f1 (kept_at g0 (hz _ (.tail _ (.head _)))) (kept_at g1 (hz _ (.tail _ (.tail _ (.head _))))) i q hq o ho
    case plain =>
      intro nn hn0 hn1
      obtain ⟨root, TT, p1, p2, p3, p4, p5, p6⟩ := plain_all L2 big (n := nn) hn0 hn1 hf.1 (fun i hi => by
        obtain ⟨S, s1, s2⟩ := hf.2 ⟨i, hi⟩
        exact ⟨S.val, by (first | lia | omega), s1, s2⟩) (clear := fun m => takesB [(65 + A, 65 + A), (65 + B, 65 + A)] (wordS m).cps.toList = false)
        (fun root m hfr hc hm => clear2 (by (first | lia | omega)) (by (first | lia | omega)) (by (first | lia | omega)) (by (first | lia | omega)) (cand_digits L2 hfr hc 16))
      exact ⟨root, TT, Inv (lim2 A B) 2 root, p1, p2, p3, p4, p5, p6⟩
end Mine
end
section
namespace Mine
theorem trText3_no {x y z : Nat} (h : ¬ x < z) : trText [x, y] x z = ⟨#[40, 63, 115, 58, 40, 63, 62, 46, 42, 63, x, y, 91, z, 45, x, 93, 41, 46, 42, 41, 92, 90]⟩ := by
  unfold trText
  rw [brText_no h]
  with_unfolding_all rfl
theorem trText2_yes {x y : Nat} (h : x < y) : trText [x] x y = ⟨#[40, 63, 115, 58, 40, 63, 62, 46, 42, 63, x, 40, 63, 33, 41, 41, 46, 42, 41, 92, 90]⟩ := by
  unfold trText
  rw [brText_yes h]
  with_unfolding_all rfl
def pat3 (A B C : Nat) (i : Nat) : Str := if i = 0 then ⟨#[42, 65 + A, 91, 66 + B, 45, 65 + A, 93, 42]⟩ else ⟨#[42, 65 + A, 65 + B, 91, 65 + C, 45, 65 + A, 93, 42]⟩
def jss3 (A B C : Nat) (i : Nat) : List (Nat × Nat) := if i = 0 then judge1 A B else [(65 + A, 65 + A), (65 + B, 65 + B), (65 + C, 65 + A)]
theorem tail3 {w : World} {dp un : Nat} {fr : Option (List Env)} {gd : Option (List Code)} {p : Program} {loose : List Str} {mean : ExcName → Option Value} {mg mb : Str → Option Value} {s : Shared} {g : Heap} {L ca fa : Addr} {cd : Value}
    {a b c c0 c1 c2 c3 : Int} {ta tb tc k0 k1 k2 k3 : Tok} {nc : Nat} {ps : Array Value} {v0 v1 : Option Value} {Q : Flow → Shared → Prop} {E : Value → Shared → Prop}
    (X : (hd.heap_39 w.params).In g) (T : Top p loose mean mg mb g) (hdp : dp + 60 < recursionLimit) (hun : un + 200 < cLine) (hC : CodeHd g 68 64) (h64 : g.get? 64 = none)
    (F : Fr g L s.heap (lm v0 v1 (some (.ref ca)) (some (.int a ta)) (some (.int b tb)) (some (.int c tc)) none none none none))
    (N : News g L s.heap [(ca, listOf #[.int c0 k0, .int c1 k1, .int c2 k2, .int c3 k3] nc), (64, tabObj ps)]) (hca : (64 : Nat) < ca) (hps : Tb ps) (hbare : AllBare s.gens)
    (ha0 : 1 ≤ a) (ha1 : a ≤ 9) (hb0 : 1 ≤ b) (hb1 : b ≤ a) (hq0 : 1 ≤ c) (hq1 : c ≤ b)
    (hret : ∀ h' g' tk' m' ps', Fr g L h' m' → News g L h' [(64, tabObj ps')] → Tb ps' → AllBare g' → Q (.ret (.bool true)) { s with heap := h', gens := g', toks := tk' }) :
    wpAny (model PySem.Challenge.rw_in0246_01.row.prog w) ((⟨none, dp, fr, gd, un⟩ : Around).deeper (envOf (Str.ofString "law") laScope L fa cd)) (execs laTail (envOf (Str.ofString "law") laScope L fa cd)) Q E s := by
  k_lt2 hca
  revert X
  k_with_none
  k_fill
  (k_with "exec For Name Subscript cons nil" => (k_here; (rename Fr _ _ _ _ => lF'); (with_unfolding_all refine' For_invVF lF' ?k1 ?k2 ?_; (case k1 => exact rfl); (case k2 => exact rfl); k_whole)))
  (k_with "execs cons" => (first | (k_here; k_gentoks) | ((with_reducible refine Mine.execs_nx ?_); (try dsimp only))))
  (k_with "WhlPost" => dsimp only [Mine.Nx])
  (k_with "KswPost" => dsimp only [Mine.Nx])
  (k_with "InvPostN" => dsimp only [Mine.Nx])
  (k_with "UnrPost" => dsimp only [Mine.Nx])
  (k_with "storeName" => dsimp only)
  (k_with "exec Assign cons ListComp" => refine Mine.hold ?_)
  intro X
  conv in (execs laTail _) =>
    arg 1
    whnf
  conv in (occs := *) (envOf _ laScope _ _ _) =>
    all_goals (arg 2; whnf)
  (try k_fold)
  k_steps
  rename Fr _ _ _ _ => F'
  rename News _ _ _ _ => N'
  with_unfolding_all refine' weights_spec (vs := [.int a ta, .int b tb, .int c tc]) (ns := [a, b, c]) (X.keeps F'.keep) (T.keeps F'.keep) ?d ?u (News.isList N' (.head _)) (.cons a ta (.cons b tb (.cons c tc .nil))) (Nat.le_succ _) (Nat.le_refl _) ?pos ?_
  case d => (show dp + 1 + 10 < _; exact Mine.rm (j := 11) hdp rfl)
  case u => (show un + 3 + 40 < _; exact Mine.rm (j := 43) hun rfl)
  case pos =>
    intro z hz
    rcases List.mem_cons.mp hz with rfl | hz
    · (first | lia | omega)
    · rcases List.mem_cons.mp hz with rfl | hz
      · (first | lia | omega)
      · rcases List.mem_cons.mp hz with rfl | hz
        · (first | lia | omega)
        · cases hz
  intro wa vsW nW ws h9 tk9 hk9 hr9 hg9 hiW hW hnl
  have F9 := fr_keep F' hk9
  have N9 := news_new F' N' hk9 hr9 hg9
  clear F' N' hk9 hr9 hg9
  k_steps
  refine unhold ?_
  rename Fr _ _ _ _ => F'
  rename News _ _ _ _ => N'
  have F2 : Fr g L _ (lm v0 v1 (some (.ref ca)) (some (.int a ta)) (some (.int b tb)) (some (.int c tc)) (some (.ref _)) (some (.ref wa)) none none) :=
    fr_lm F' rfl rfl rfl rfl rfl rfl rfl rfl rfl rfl (by (intros; repeat (first | (apply Mine.lmn <;> assumption) | refine Mine.ifn (by assumption) ?_)))
  clear F'
  obtain ⟨A, rfl⟩ := Int.eq_ofNat_of_zero_le (show 0 ≤ a by (first | lia | omega))
  obtain ⟨B, rfl⟩ := Int.eq_ofNat_of_zero_le (show 0 ≤ b by (first | lia | omega))
  obtain ⟨C, rfl⟩ := Int.eq_ofNat_of_zero_le (show 0 ≤ c by (first | lia | omega))
  have hL64 : L ≠ 64 := fun q => by
    obtain ⟨o, es, ep, e, hd, _⟩ := F2.ns
    rw [q, News.get N' (.tail _ (.tail _ (.tail _ (.head _))))] at e
    cases e; cases hd
  refine rows_G (s := ⟨_, _, _, _, _⟩) (npat := 2) (pats := pat3 A B C) (jss := jss3 A B C) X T hdp hun hC h64 F2 (News.get N' (.tail _ (.tail _ (.tail _ (.head _))))) hL64 hps hbare (by decide) ?hpat ?helt ?hrows
  case hpat =>
    intro s' E' Q' hk hq
    have kk : ∀ b o, g.get? b = some o → s'.heap.get? b = some o := fun b o e => hk b o (F2.keep b o e)
    with_unfolding_all refine' patterns3_spec (X.keeps kk) (T.keeps kk) ?d ?u ((News.isList N' (.tail _ (.head _))).at fun o e => hk _ o e) ha0 ha1 hb0 (by (first | lia | omega)) hq0 (by (first | lia | omega)) ?_
    case d => (show dp + 1 + 10 < _; exact Mine.rm (j := 11) hdp rfl)
    case u => (show un + 3 + 40 < _; exact Mine.rm (j := 43) hun rfl)
    intro r t t2 n' h' tk' k1 r1 l1
    refine hq r _ n' h' tk' k1 r1 l1 rfl ?_
    intro i v hv
    match i, hv with
    | 0, hv => cases hv; exact ⟨t, rfl⟩
    | 1, hv => cases hv; exact ⟨t2, rfl⟩
    | i + 2, hv => simp at hv
  case helt =>
    intro i s' C' m' tp ps' E' Q' hi hg ht' hps' hb' hn' hm' hq
    rcases i with _ | _ | i
    · refine elt_G (text := trText [65 + A] (65 + A) (66 + B)) (js := judge1 A B) X T hdp hun hC h64 hg ht' hps' hb' hn' hm' ?_ ?_ hq
      · intro s'' E'' Q'' x1 t1 c1 tb1 p1 b1 q1
        with_unfolding_all refine' translate2_spec x1 t1 ?d ?u c1 tb1 p1 b1 (by (first | lia | omega)) (by (first | lia | omega)) (by (first | lia | omega)) (by (first | lia | omega)) q1
        case d => (show dp + 1 + 30 < _; exact Mine.rm (j := 31) hdp rfl)
        case u => (show un + 3 + 100 < _; exact Mine.rm (j := 103) hun rfl)
      · intro s'' t E'' Q'' x1 t1 q1
        by_cases hlt : 65 + A < 66 + B
        · rw [trText2_yes hlt]
          unfold judge1 at q1
          rw [if_pos hlt] at q1
          with_unfolding_all refine' judges2b_spec x1 t1 ?d ?u (by (first | lia | omega)) (by (first | lia | omega)) q1
          case d => (show dp + 1 + 10 < _; exact Mine.rm (j := 11) hdp rfl)
          case u => (show un + 3 + 40 < _; exact Mine.rm (j := 43) hun rfl)
        · rw [trText2_no hlt]
          unfold judge1 at q1
          rw [if_neg hlt] at q1
          with_unfolding_all refine' judges2_spec x1 t1 ?d ?u (by (first | lia | omega)) (by (first | lia | omega)) (by (first | lia | omega)) (by (first | lia | omega)) q1
          case d => (show dp + 1 + 10 < _; exact Mine.rm (j := 11) hdp rfl)
          case u => (show un + 3 + 40 < _; exact Mine.rm (j := 43) hun rfl)
    · refine elt_G (text := trText [65 + A, 65 + B] (65 + A) (65 + C)) (js := [(65 + A, 65 + A), (65 + B, 65 + B), (65 + C, 65 + A)]) X T hdp hun hC h64 hg ht' hps' hb' hn' hm' ?_ ?_ hq
      · intro s'' E'' Q'' x1 t1 c1 tb1 p1 b1 q1
        with_unfolding_all refine' translate3_spec x1 t1 ?d ?u c1 tb1 p1 b1 (by (first | lia | omega)) (by (first | lia | omega)) (by (first | lia | omega)) (by (first | lia | omega)) (by (first | lia | omega)) (by (first | lia | omega)) q1
        case d => (show dp + 1 + 30 < _; exact Mine.rm (j := 31) hdp rfl)
        case u => (show un + 3 + 100 < _; exact Mine.rm (j := 103) hun rfl)
      · intro s'' t E'' Q'' x1 t1 q1
        rw [trText3_no (by (first | lia | omega))]
        with_unfolding_all refine' judges3_spec x1 t1 ?d ?u (by (first | lia | omega)) (by (first | lia | omega)) (by (first | lia | omega)) (by (first | lia | omega)) (by (first | lia | omega)) (by (first | lia | omega)) q1
        case d => (show dp + 1 + 10 < _; exact Mine.rm (j := 11) hdp rfl)
        case u => (show un + 3 + 40 < _; exact Mine.rm (j := 43) hun rfl)
    · exact absurd hi (by (first | lia | omega))
  case hrows =>
    intro ra ys ps2 h2 g2 tk2 ht2 hps2 hb2 hk2 hN2 hra hga hyl hrow hnd
    obtain ⟨j0, vs0, n0, e01, e02, e03, e04, e05, e06⟩ := (hrow 0 (by decide)).ex
    obtain ⟨j1, vs1, n1, e11, e12, e13, e14, e15, e16⟩ := (hrow 1 (by decide)).ex
    have hys : ys = [Value.ref j0, Value.ref j1] := two_list hyl e01 e11
    subst hys
    have hj : j0 ≠ j1 := by
      intro q
      subst q
      simp at hnd
    obtain ⟨x0, y0, x1, y1, hj1⟩ : ∃ x0 y0 x1 y1, judge1 A B = [(x0, y0), (x1, y1)] := by
      unfold judge1
      split <;> exact ⟨_, _, _, _, rfl⟩
    have e03 : JAt h2 vs0 (judge1 A B) := e03
    have e13 : JAt h2 vs1 [(65 + A, 65 + A), (65 + B, 65 + B), (65 + C, 65 + A)] := e13
    have e03' : JAt h2 vs0 [(x0, y0), (x1, y1)] := hj1 ▸ e03
    obtain ⟨q00, t00, u00, f00, o00, g00, cl00, m00, d00⟩ := e03'.2 0 _ _ rfl
    obtain ⟨q01, t01, u01, f01, o01, g01, cl01, m01, d01⟩ := e03'.2 1 _ _ rfl
    obtain ⟨q10, t10, u10, f10, o10, g10, cl10, m10, d10⟩ := e13.2 0 _ _ rfl
    obtain ⟨q11, t11, u11, f11, o11, g11, cl11, m11, d11⟩ := e13.2 1 _ _ rfl
    obtain ⟨q12, t12, u12, f12, o12, g12, cl12, m12, d12⟩ := e13.2 2 _ _ rfl
    have hgL : g.get? L = none := Heap.get?_none_of_le F2.above
    have F3 : Fr g L h2 (lm v0 v1 (some (.ref ca)) (some (.int A ta)) (some (.int B tb)) (some (.int C tc)) (some (.ref _)) (some (.ref wa)) (some (.ref ra)) none) :=
      fr_lm ⟨hN2, fun b o e => hk2 b o (fun q => by rw [q, h64] at e; cases e) (fun q => by rw [q, hgL] at e; cases e) (F2.keep b o e), F2.above⟩ rfl rfl rfl rfl rfl rfl rfl rfl rfl rfl (by (intros; repeat (first | (apply Mine.lmn <;> assumption) | refine Mine.ifn (by assumption) ?_)))
    have M := news_moved (news_three N') hk2 (news_64 N')
    have R2 := news_cons (news_cons (news_cons (news_cons News.nil g12 (fr_fresh F2 (e16 2 q12 f12).1)) g11 (fr_fresh F2 (e16 1 q11 f11).1)) g10 (fr_fresh F2 (e16 0 q10 f10).1)) e12 (fr_fresh F2 e14)
    have R3 := news_cons (news_cons (news_cons R2 g01 (fr_fresh F2 (e06 1 q01 f01).1)) g00 (fr_fresh F2 (e06 0 q00 f00).1)) e02 (fr_fresh F2 e04)
    have N3 := news_cons (news_cons (news_cons (news_cons R3 ht2 ⟨Ne.symm hL64, h64⟩) (M _ (.tail _ (.tail _ (.head _)))).1 (M _ (.tail _ (.tail _ (.head _)))).2) (M _ (.head _)).1 (M _ (.head _)).2) hga (fr_fresh F2 hra)
    obtain ⟨K, rfl⟩ := wts3 hW
    have L2 := lim3_ok (a := A) (b := B) (c := C) (by (first | lia | omega)) (by (first | lia | omega)) (by (first | lia | omega)) (by (first | lia | omega))
    have big := wts_big L2 hnl
    have hf := fin3 ⟨A - 1, by (first | lia | omega)⟩ ⟨B - 1, by (first | lia | omega)⟩ ⟨C - 1, by (first | lia | omega)⟩ (show B - 1 ≤ A - 1 by (first | lia | omega)) (show C - 1 ≤ B - 1 by (first | lia | omega))
    dsimp only at hf
    rw [show A - 1 + 1 = A by (first | lia | omega), show B - 1 + 1 = B by (first | lia | omega), show C - 1 + 1 = C by (first | lia | omega)] at hf
    have wf := wts_facts (lims := [(A : Int), (B : Int), (C : Int)]) (by
      intro z hz
      rcases List.mem_cons.mp hz with rfl | hz
      · (first | lia | omega)
      · rcases List.mem_cons.mp hz with rfl | hz
        · (first | lia | omega)
        · rcases List.mem_cons.mp hz with rfl | hz
          · (first | lia | omega)
          · cases hz) (Nat.le_succ _) (Nat.le_refl _) hW
    have wl := wf.len
    have wt := wf.top
    refine tail_end (s := ⟨_, _, _, _, _⟩) (jsOf := fun j => if j = j0 then judge1 A B else [(65 + A, 65 + A), (65 + B, 65 + B), (65 + C, 65 + A)]) (clear := fun m => (takesB (judge1 A B) (wordS m).cps.toList = false ∧ takesB [(65 + A, 65 + A), (65 + B, 65 + B), (65 + C, 65 + A)] (wordS m).cps.toList = false)) X T hdp hun F3 N3 (Nat.le_of_ble_eq_true rfl) ?rows hiW (by (first | lia | omega)) (fun x hx => ⟨by have := wf.ge x hx; (first | lia | omega), by have := wf.le x hx; (first | lia | omega)⟩) ha0 ha1 ?plain ?clear hps2 hb2 hret
    case rows =>
      refine two_items_ ⟨j0, vs0, n0, rfl, .head _, by have : vs0.size = 2 := e03'.1; (first | lia | omega), fun h' hz => ?_, ?_⟩ ⟨j1, vs1, n1, rfl, .tail _ (.tail _ (.tail _ (.head _))), by have : vs1.size = 3 := e13.1; (first | lia | omega), fun h' hz => ?_, ?_⟩
      · rw [if_pos rfl]
        exact e03.keepsBut (fun i q o hq ho => two_refs (P := fun q => ∀ o, h2.get? q = some o → h'.get? q = some o) e03'.1 f00 f01 (kept_at g00 (hz _ (.tail _ (.head _)))) (kept_at g01 (hz _ (.tail _ (.tail _ (.head _))))) i q hq o ho)
      · rw [if_pos rfl, hj1]
        exact Nat.le_of_ble_eq_true rfl
      · rw [if_neg (Ne.symm hj)]
        exact e13.keepsBut (fun i q o hq ho => three_refs (P := fun q => ∀ o, h2.get? q = some o → h'.get? q = some o) e13.1 f10 f11 f12 (kept_at g10 (hz _ (.tail _ (.tail _ (.tail _ (.tail _ (.head _))))))) (kept_at g11 (hz _ (.tail _ (.tail _ (.tail _ (.tail _ (.tail _ (.head _)))))))) (kept_at g12 (hz _ (.tail _ (.tail _ (.tail _ (.tail _ (.tail _ (.tail _ (.head _))))))))) i q hq o ho)
      · rw [if_neg (Ne.symm hj)]
        exact Nat.le_of_ble_eq_true rfl
    case clear =>
      intro n
      constructor
      · intro h i j hi
        match i, hi with
        | 0, hi => cases hi; rw [if_pos rfl]; exact h.1
        | 1, hi => cases hi; rw [if_neg (Ne.symm hj)]; exact h.2
        | i + 2, hi => simp at hi
      · intro h
        have h0 := h 0 j0 rfl
        have h1 := h 1 j1 rfl
        rw [if_pos rfl] at h0
        rw [if_neg (Ne.symm hj)] at h1
        exact ⟨h0, h1⟩
    case plain =>
      intro nn hn0 hn1
      obtain ⟨root, TT, p1, p2, p3, p4, p5, p6⟩ := plain_all L2 big (n := nn) hn0 hn1 hf.1 (fun i hi => by
        obtain ⟨S, s1, s2⟩ := hf.2 ⟨i, hi⟩
        exact ⟨S.val, by (first | lia | omega), s1, s2⟩) (clear := fun m => (takesB (judge1 A B) (wordS m).cps.toList = false ∧ takesB [(65 + A, 65 + A), (65 + B, 65 + B), (65 + C, 65 + A)] (wordS m).cps.toList = false))
        (fun root m hfr hc hm => clear3 (by (first | lia | omega)) (by (first | lia | omega)) (by (first | lia | omega)) (by (first | lia | omega)) (by (first | lia | omega)) (cand_digits L2 hfr hc 16))
      exact ⟨root, TT, Inv (lim3 A B C) 3 root, p1, p2, p3, p4, p5, p6⟩
  all_goals (exfalso; (first | lia | omega))
end Mine
end
section
namespace Mine
/-- law from `top` on -/
theorem mid {w : World} {dp un : Nat} {fr : Option (List Env)} {gd : Option (List Code)} {p : Program} {loose : List Str} {mean : ExcName → Option Value} {mg mb : Str → Option Value} {s : Shared} {g : Heap} {L ca fa : Addr} {cd : Value}
    {c0 c1 c2 c3 : Int} {k0 k1 k2 k3 : Tok} {nc : Nat} {ps : Array Value} {v0 v1 : Option Value} {Q : Flow → Shared → Prop} {E : Value → Shared → Prop}
    (X : (hd.heap_39 w.params).In g) (T : Top p loose mean mg mb g) (hdp : dp + 60 < recursionLimit) (hun : un + 200 < cLine) (hC : CodeHd g 68 64) (h64 : g.get? 64 = none)
    (F : Fr g L s.heap (lm v0 v1 (some (.ref ca)) none none none none none none none))
    (N : News g L s.heap [(ca, listOf #[.int c0 k0, .int c1 k1, .int c2 k2, .int c3 k3] nc), (64, tabObj ps)]) (hca : (64 : Nat) < ca) (hps : Tb ps) (hbare : AllBare s.gens)
    (hret : ∀ h' g' tk' m' ps', Fr g L h' m' → News g L h' [(64, tabObj ps')] → Tb ps' → AllBare g' → Q (.ret (.bool true)) { s with heap := h', gens := g', toks := tk' }) :
    wpAny (model PySem.Challenge.rw_in0246_01.row.prog w) ((⟨none, dp, fr, gd, un⟩ : Around).deeper (envOf (Str.ofString "law") laScope L fa cd)) (execs (laBody.drop 2) (envOf (Str.ofString "law") laScope L fa cd)) Q E s := by
  k_lt2 hca
  revert X
  k_with_none
  k_fill
  (k_with "exec For Name Subscript cons nil" => (k_here; (rename Fr _ _ _ _ => lF'); (with_unfolding_all refine' For_invVF lF' ?k1 ?k2 ?_; (case k1 => exact rfl); (case k2 => exact rfl); k_whole)))
  (k_with "execs cons" => (first | (k_here; k_gentoks) | ((with_reducible refine Mine.execs_nx ?_); (try dsimp only))))
  (k_with "WhlPost" => dsimp only [Mine.Nx])
  (k_with "KswPost" => dsimp only [Mine.Nx])
  (k_with "InvPostN" => dsimp only [Mine.Nx])
  (k_with "UnrPost" => dsimp only [Mine.Nx])
  (k_with "storeName" => dsimp only)
  (k_with "execs cons" => with_reducible refine Mine.at_asn "limits" ?_)
  intro X
  conv in (execs (laBody.drop 2) _) =>
    arg 1
    whnf
  conv in (occs := *) (envOf _ laScope _ _ _) =>
    all_goals (arg 2; whnf)
  (try k_fold)
  k_steps
  · exfalso
    rename (1 + Int.fmod _ 9 = 0) => hz
    have := Int.fmod_nonneg_of_pos c0 (show (0 : Int) < 9 by decide)
    change 1 + Int.fmod c0 9 = 0 at hz
    omega
  · exfalso
    have h9 := Int.fmod_nonneg_of_pos c0 (show (0 : Int) < 9 by decide)
    have := Int.fmod_nonneg_of_pos c1 (show (0 : Int) < 1 + Int.fmod c0 9 by omega)
    rename (1 + _ + 1 = 0) => hz
    change 1 + Int.fmod c1 (1 + Int.fmod c0 9) + 1 = 0 at hz
    omega
  refine unhold ?_
  with_unfolding_all (change wpAny _ _ (execs Mine.laTail _) _ _ _)
  rename Fr _ _ _ _ => F'
  rename News _ _ _ _ => N'
  have F9 : Fr g L _ (lm v0 v1 (some (.ref ca)) (some (.int (1 + c0.fmod 9) _)) (some (.int (1 + c1.fmod (1 + c0.fmod 9)) _)) (some (.int (c2.fmod (1 + c1.fmod (1 + c0.fmod 9) + 1)) _)) none none none none) :=
    fr_lm F' rfl rfl rfl rfl rfl rfl rfl rfl rfl rfl (by (intros; repeat (first | (apply Mine.lmn <;> assumption) | refine Mine.ifn (by assumption) ?_)))
  have a0 := Int.fmod_nonneg_of_pos c0 (show (0 : Int) < 9 by decide)
  have a1 := Int.fmod_lt_of_pos c0 (show (0 : Int) < 9 by decide)
  have b0 := Int.fmod_nonneg_of_pos c1 (show (0 : Int) < 1 + c0.fmod 9 by omega)
  have b1 := Int.fmod_lt_of_pos c1 (show (0 : Int) < 1 + c0.fmod 9 by omega)
  have q0 := Int.fmod_nonneg_of_pos c2 (show (0 : Int) < 1 + c1.fmod (1 + c0.fmod 9) + 1 by omega)
  have q1 := Int.fmod_lt_of_pos c2 (show (0 : Int) < 1 + c1.fmod (1 + c0.fmod 9) + 1 by omega)
  by_cases hz : c2.fmod (1 + c1.fmod (1 + c0.fmod 9) + 1) = 0
  · rw [hz] at F9
    exact tail2 (s := ⟨_, _, _, _, _⟩) X T hdp hun hC h64 F9 N' hca hps hbare (by omega) (by omega) (by omega) (by omega) hret
  · exact tail3 (s := ⟨_, _, _, _, _⟩) X T hdp hun hC h64 F9 N' hca hps hbare (by omega) (by omega) (by omega) (by omega) (by omega) (by omega) hret
end Mine
end
section
namespace Mine
theorem news_ends {g h : Heap} {L : Addr} {a b c d e : Addr × Obj} (N : News g L h [a, b, c, d, e]) : News g L h [a, e] := fun p hp => by
  rcases List.mem_cons.mp hp with rfl | hp
  · exact N _ (.head _)
  · rcases List.mem_cons.mp hp with rfl | hp
    · exact N _ (.tail _ (.tail _ (.tail _ (.tail _ (.head _)))))
    · cases hp
/-- law from `cells` on -/
theorem mid1 {w : World} {dp un : Nat} {fr : Option (List Env)} {gd : Option (List Code)} {p : Program} {loose : List Str} {mean : ExcName → Option Value} {mg mb : Str → Option Value} {s : Shared} {g : Heap} {L da fa : Addr} {cd : Value}
    {ys : List Value} {zs : List Int} {nd : Nat} {ps : Array Value} {v0 : Option Value} {Q : Flow → Shared → Prop} {E : Value → Shared → Prop}
    (X : (hd.heap_39 w.params).In g) (T : Top p loose mean mg mb g) (hdp : dp + 60 < recursionLimit) (hun : un + 200 < cLine) (hC : CodeHd g 68 64) (h64 : g.get? 64 = none)
    (F : Fr g L s.heap (lm v0 (some (.ref da)) none none none none none none none none))
    (N : News g L s.heap [(da, listOf ys.toArray nd), (64, tabObj ps)]) (hda : (64 : Nat) ≠ da) (hI : IntsAre ys zs) (hl : ys.length ≤ 4) (hps : Tb ps) (hbare : AllBare s.gens)
    (hret : ∀ h' g' tk' m' ps', Fr g L h' m' → News g L h' [(64, tabObj ps')] → Tb ps' → AllBare g' → Q (.ret (.bool true)) { s with heap := h', gens := g', toks := tk' }) :
    wpAny (model PySem.Challenge.rw_in0246_01.row.prog w) ((⟨none, dp, fr, gd, un⟩ : Around).deeper (envOf (Str.ofString "law") laScope L fa cd)) (execs (laBody.drop 1) (envOf (Str.ofString "law") laScope L fa cd)) Q E s := by
  revert X
  k_with_none
  k_fill
  (k_with "exec For Name Subscript cons nil" => (k_here; (rename Fr _ _ _ _ => lF'); (with_unfolding_all refine' For_invVF lF' ?k1 ?k2 ?_; (case k1 => exact rfl); (case k2 => exact rfl); k_whole)))
  (k_with "execs cons" => (first | (k_here; k_gentoks) | ((with_reducible refine Mine.execs_nx ?_); (try dsimp only))))
  (k_with "WhlPost" => dsimp only [Mine.Nx])
  (k_with "KswPost" => dsimp only [Mine.Nx])
  (k_with "InvPostN" => dsimp only [Mine.Nx])
  (k_with "UnrPost" => dsimp only [Mine.Nx])
  (k_with "storeName" => dsimp only)
  (k_with "execs cons" => with_reducible refine Mine.at_asn "top" ?_)
  intro X
  conv in (execs (laBody.drop 1) _) =>
    arg 1
    whnf
  conv in (occs := *) (envOf _ laScope _ _ _) =>
    all_goals (arg 2; whnf)
  (try k_fold)
  cases hI with
  | nil =>
    k_steps
    refine unhold ?_
    with_unfolding_all (change wpAny _ _ (execs (List.drop 2 Mine.laBody) _) _ _ _)
    rename Fr _ _ _ _ => F'
    rename News _ _ _ _ => N'
    rename (_ ∧ _ ∧ _ ∧ (64 : Nat) < _) => l1
    have F9 : Fr g L _ (lm v0 (some (.ref da)) (some (.ref _)) none none none none none none none) := fr_lm F' rfl rfl rfl rfl rfl rfl rfl rfl rfl rfl (by (intros; repeat (first | (apply Mine.lmn <;> assumption) | refine Mine.ifn (by assumption) ?_)))
    exact mid (s := ⟨_, _, _, _, _⟩) X T hdp hun hC h64 F9 (news_ends N') l1.2.2.2 hps hbare hret
  | cons c0 k0 hI => cases hI with
    | nil =>
      k_steps
      refine unhold ?_
      with_unfolding_all (change wpAny _ _ (execs (List.drop 2 Mine.laBody) _) _ _ _)
      rename Fr _ _ _ _ => F'
      rename News _ _ _ _ => N'
      rename (_ ∧ _ ∧ _ ∧ (64 : Nat) < _) => l1
      have F9 : Fr g L _ (lm v0 (some (.ref da)) (some (.ref _)) none none none none none none none) := fr_lm F' rfl rfl rfl rfl rfl rfl rfl rfl rfl rfl (by (intros; repeat (first | (apply Mine.lmn <;> assumption) | refine Mine.ifn (by assumption) ?_)))
      exact mid (s := ⟨_, _, _, _, _⟩) X T hdp hun hC h64 F9 (news_ends N') l1.2.2.2 hps hbare hret
    | cons c1 k1 hI => cases hI with
      | nil =>
        k_steps
        refine unhold ?_
        with_unfolding_all (change wpAny _ _ (execs (List.drop 2 Mine.laBody) _) _ _ _)
        rename Fr _ _ _ _ => F'
        rename News _ _ _ _ => N'
        rename (_ ∧ _ ∧ _ ∧ (64 : Nat) < _) => l1
        have F9 : Fr g L _ (lm v0 (some (.ref da)) (some (.ref _)) none none none none none none none) := fr_lm F' rfl rfl rfl rfl rfl rfl rfl rfl rfl rfl (by (intros; repeat (first | (apply Mine.lmn <;> assumption) | refine Mine.ifn (by assumption) ?_)))
        exact mid (s := ⟨_, _, _, _, _⟩) X T hdp hun hC h64 F9 (news_ends N') l1.2.2.2 hps hbare hret
      | cons c2 k2 hI => cases hI with
        | nil =>
          k_steps
          refine unhold ?_
          with_unfolding_all (change wpAny _ _ (execs (List.drop 2 Mine.laBody) _) _ _ _)
          rename Fr _ _ _ _ => F'
          rename News _ _ _ _ => N'
          rename (_ ∧ _ ∧ _ ∧ (64 : Nat) < _) => l1
          have F9 : Fr g L _ (lm v0 (some (.ref da)) (some (.ref _)) none none none none none none none) := fr_lm F' rfl rfl rfl rfl rfl rfl rfl rfl rfl rfl (by (intros; repeat (first | (apply Mine.lmn <;> assumption) | refine Mine.ifn (by assumption) ?_)))
          exact mid (s := ⟨_, _, _, _, _⟩) X T hdp hun hC h64 F9 (news_ends N') l1.2.2.2 hps hbare hret
        | cons c3 k3 hI => cases hI with
          | nil =>
            k_steps
            refine unhold ?_
            with_unfolding_all (change wpAny _ _ (execs (List.drop 2 Mine.laBody) _) _ _ _)
            rename Fr _ _ _ _ => F'
            rename News _ _ _ _ => N'
            rename (_ ∧ _ ∧ _ ∧ (64 : Nat) < _) => l1
            have F9 : Fr g L _ (lm v0 (some (.ref da)) (some (.ref _)) none none none none none none none) := fr_lm F' rfl rfl rfl rfl rfl rfl rfl rfl rfl rfl (by (intros; repeat (first | (apply Mine.lmn <;> assumption) | refine Mine.ifn (by assumption) ?_)))
            exact mid (s := ⟨_, _, _, _, _⟩) X T hdp hun hC h64 F9 (news_ends N') l1.2.2.2 hps hbare hret
          | cons c4 k4 hI =>
            simp only [List.length_cons] at hl
            (first | lia | omega)
end Mine
end
section
namespace Mine
/-- what the head asks at the end, with generators run out -/
theorem post_true {M : Model} {A : Around} {cd : Code} {s s₁ : Shared} {cw : ClaimW} {cl : Str → Option Addr} {mean : ExcName → Option Value} {args : List WData} (hT : TabsAt [(68, 64)] s₁.heap) (hr : ∀ a x, cw.raises a x = false) (hp : cw.post args (.bool true) args = true)
    (h : codeAny M A cd (fun r s' => r = .ok (.ret (.bool true)) ∧ (∀ b o, (b : Nat) ≠ 64 → s₁.heap.get? b = some o → s'.heap.get? b = some o) ∧ (∃ ps, s'.heap.get? 64 = some (tabObj ps)) ∧ s'.os = s₁.os ∧ AllBare s'.gens) s) :
    codeAny M A cd (GoodWG cw cl mean args s₁) s := by
  obtain ⟨hc, ht⟩ := hT (68, 64) (.head _)
  refine codeAny_mono h fun r s' => ?_
  rintro ⟨e, hk, ⟨ps, hps⟩, hos, hg⟩
  have key : ∀ b o, s₁.heap.get? b = some o → asItWas s₁.heap s'.heap b o ∧ ∃ o', s'.heap.get? b = some o' := by
    intro b o q
    by_cases hb : (b : Nat) = 64
    · subst hb
      rw [show s₁.heap.get? 64 = some (tabObj #[]) from ht] at q
      cases q
      exact ⟨.inr (.inl ⟨(hc.tab ht).isCodeTable, rfl, #[], ps, rfl, by rw [Array.empty_append]; exact hps⟩), _, hps⟩
    · exact ⟨.inl (hk b o hb q), o, hk b o hb q⟩
  exact ⟨.inl ⟨.bool true, .bool true, [], e, hr _, .bool true, hp, unshared_nil⟩, ⟨fun b o q => (key b o q).1, fun b o q => (key b o q).2⟩, hos, hg⟩
theorem news_first_last {g h : Heap} {L : Addr} {a b c : Addr × Obj} (N : News g L h [a, b, c]) : News g L h [a, c] := fun p hp => by
  rcases List.mem_cons.mp hp with rfl | hp
  · exact N _ (.head _)
  · rcases List.mem_cons.mp hp with rfl | hp
    · exact N _ (.tail _ (.tail _ (.head _)))
    · cases hp
theorem t : PySem.Challenge.rw_in0246_01.Holds := hd (by
  k_with_none
  k_fill
  (k_with "exec For Name Subscript cons nil" => (k_here; (rename Fr _ _ _ _ => lF'); (with_unfolding_all refine' For_invVF lF' ?k1 ?k2 ?_; (case k1 => exact rfl); (case k2 => exact rfl); k_whole)))
  (k_with "execs cons" => (first | (k_here; k_gentoks) | ((with_reducible refine Mine.execs_nx ?_); (try dsimp only))))
  (k_with "WhlPost" => dsimp only [Mine.Nx])
  (k_with "KswPost" => dsimp only [Mine.Nx])
  (k_with "InvPostN" => dsimp only [Mine.Nx])
  (k_with "UnrPost" => dsimp only [Mine.Nx])
  (k_with "storeName" => dsimp only)
  (k_with "execs cons" => with_reducible refine Mine.at_asn "cells" ?_)
  intro w s₀ s₁ mg mb G Y fa o pm cd doc dV kV ho hd hcd hD hmg hg args vals as hpre hlay hrd hwl hlo
  have KX := km_in_of Y
  km_tabs Y
  have X := (Ground.X G).1
  have V := (Ground.X G).2
  refine Ground.open G ?_
  intro T B D TE TW
  try (refine guard_noD D (by decide +kernel) ?_; clear D)
  km_lay T hmg ho hd cd
  clear hmg
  wrow_args hpre hlay hrd hwl hlo
  all_goals first | refine callC_kw (enter_call ?_) | refine enter_call ?_
  w_top on
  refine post_true hT9 (fun _ _ => rfl) ?hp ?_
  case hp => wrow_post
  w_call any ho hd hcd hD T F
  clear hd
  kn_ghosts F T
  k_drop
  all_goals try k_fold
  rename (Below _ _ _ _) => K
  clear K
  k_steps
  refine unhold ?_
  with_unfolding_all (change wpAny _ _ (execs (List.drop 1 Mine.laBody) _) _ _ _)
  rename Fr _ _ _ _ => F'
  rename News _ _ _ _ => N'
  rename (IntsAre _ (List.map _ (List.take 4 _))) => hI8
  rename (_ ≠ _ ∧ 64 ≠ _) => o1
  have hl := hI8.length
  rw [List.length_map, List.length_take] at hl
  have hl4 := Nat.le_trans (Nat.le_of_eq hl) (Nat.min_le_left _ _)
  have F9 : Fr _ _ _ (lm (some (.ref _)) (some (.ref _)) none none none none none none none none) :=
    fr_lm F' rfl rfl rfl rfl rfl rfl rfl rfl rfl rfl (by
      intro z a0 a1 _ _ _ _ _ _ _ _
      show (if z = Str.ofString "drawn" then _ else List.lookup z [(Str.ofString "script", _)]) = none
      rw [if_neg a1]
      have e : (z == Str.ofString "script") = false := by
        cases q : (z == Str.ofString "script") with
        | true => exact absurd (eq_of_beq q) a0
        | false => rfl
      simp only [List.lookup, e])
  refine mid1 (by assumption) (by assumption) (by decide) (by decide) codeHd (N' (64, _) (.tail _ (.tail _ (.head _)))).2.2 F9 (news_first_last N') o1.2 hI8 hl4 (.inl rfl) (.of_eq hg) ?_
  intro h' g' tk' m' ps' Fz Nz Tz Gz
  exact ⟨rfl, fun b o hb e => Fz.keep b o (ghost_ne e (by simpa using hb)), ⟨ps', News.get Nz (.head _)⟩, rfl, Gz⟩)
end Mine
end

theorem PySem.Challenge.cw_in0246_01_holds : PySem.Challenge.rw_in0246_01.Holds :=
  Mine.t
